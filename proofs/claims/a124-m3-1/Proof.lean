import JvmDerived
import JvmDerived.Pilot.@@N@@Statement
import JvmDerived.Pilot.@@N@@Code
set_option linter.unusedVariables false
set_option linter.unusedSimpArgs false
@@BLOCK:NumsL.lean.txt@@
/- laws to paste: pair_says, shr0, narrow_ch (cut by pick.py; bodies as the Statement names them) -/
namespace Jvm.Pilot.@@N@@
namespace StrChars
open Jvm Sem ClassFile Op Lib Jvm.Stand Jvm.Free.XT Jvm.Free.ALB Jvm.Free.JM Jvm.Free
open Jvm.Lib.Cold (StaticIs)
/-- the byte that i2b leaves of a char -/
def lo8 (x : Int32) : Int32 := x.toInt8.toInt32
end StrChars
namespace StrChars
open Jvm Sem ClassFile Op Lib Jvm.Stand Jvm.Free.XT Jvm.Free.ALB Jvm.Free.JM Jvm.Free
open Jvm.Lib.Cold (StaticIs)
def hi8 (x : Int32) : Int32 := lo8 (x >>> ((8 : Int32) &&& 31))
/-- what StringUTF16.getChar makes of two bytes -/
def pairCh (u v : Int32) : Int32 := (((u &&& 255) <<< ((0 : Int32) &&& 31)) ||| ((v &&& 255) <<< ((8 : Int32) &&& 31))).toUInt32.toUInt16.toUInt32.toInt32
theorem shr0 (c : Int32) : c >>> ((0 : Int32) &&& 31) = c := by
  have e : ((0 : Int32) &&& 31) = 0 := by decide
  rw [e]
  apply Int32.toBitVec_inj.mp
  rw [Int32.toBitVec_shiftRight]
  have e1 : ((0 : Int32).toBitVec.smod 32) = 0#32 := by decide
  rw [e1, BitVec.sshiftRight_eq']
  exact BitVec.sshiftRight_zero
theorem lo8_and (x : Int32) : (lo8 x &&& 255).toBitVec.toNat = x.toBitVec.toNat % 256 := by
  have h : (lo8 x).toBitVec = (x.toBitVec.signExtend 8).signExtend 32 := by rw [lo8, Int8.toBitVec_toInt32, Int32.toBitVec_toInt8]
  rw [Int32.toBitVec_and, BitVec.toNat_and, h]
  have e : ((x.toBitVec.signExtend 8).signExtend 32).toNat % 256 = x.toBitVec.toNat % 256 := by
    rw [BitVec.toNat_signExtend]
    have hlt := x.toBitVec.isLt
    simp only [BitVec.toNat_setWidth, BitVec.toNat_signExtend]
    split <;> split <;> omega
  rw [← e]
  exact Nat.and_two_pow_sub_one_eq_mod _ 8
theorem pair_says {c : Int32} (h0 : ¬ c < 0) (h1 : ¬ 65535 < c) : pairCh (lo8 c) (hi8 c) = c := by
  rw [Int32.lt_iff_toInt_lt] at h0 h1
  have e0 : (0 : Int32).toInt = 0 := rfl
  have e1 : (65535 : Int32).toInt = 65535 := rfl
  have hc : c.toInt = c.toBitVec.toNat := by
    have := c.toBitVec.isLt
    have e : c.toInt = c.toBitVec.toInt := rfl
    rw [e] at h0 h1
    rw [e]
    rw [BitVec.toInt_eq_toNat_cond] at h0 h1 ⊢
    split at h0 <;> split <;> omega
  have hn : c.toBitVec.toNat < 65536 := by omega
  have a1 := lo8_and c
  have a2 : (hi8 c &&& 255).toBitVec.toNat = c.toBitVec.toNat / 256 := by
    rw [hi8, lo8_and]
    have e : ((8 : Int32) &&& 31) = 8 := by decide
    rw [e, Int32.toBitVec_shiftRight]
    have e2 : ((8 : Int32).toBitVec.smod 32) = 8#32 := by decide
    rw [e2, BitVec.sshiftRight_eq', BitVec.toNat_sshiftRight_of_msb_false (by rw [BitVec.msb_eq_false_iff_two_mul_lt]; omega)]
    show c.toBitVec.toNat >>> 8 % 256 = _
    rw [Nat.shiftRight_eq_div_pow]
    omega
  unfold pairCh
  apply Int32.toBitVec_inj.mp
  apply BitVec.eq_of_toNat_eq
  have f0 : ((0 : Int32) &&& 31) = 0 := by decide
  have f8 : ((8 : Int32) &&& 31) = 8 := by decide
  rw [f0, f8]
  have g : (((lo8 c &&& 255) <<< (0 : Int32)) ||| ((hi8 c &&& 255) <<< (8 : Int32))).toBitVec.toNat = c.toBitVec.toNat := by
    rw [Int32.toBitVec_or, Int32.toBitVec_shiftLeft, Int32.toBitVec_shiftLeft]
    have s0 : ((0 : Int32).toBitVec.smod 32) = 0#32 := by decide
    have s8 : ((8 : Int32).toBitVec.smod 32) = 8#32 := by decide
    rw [s0, s8, BitVec.toNat_or]
    simp only [BitVec.shiftLeft_eq', BitVec.toNat_shiftLeft, a1, a2]
    show (c.toBitVec.toNat % 256) <<< 0 % 2 ^ 32 ||| (c.toBitVec.toNat / 256) <<< 8 % 2 ^ 32 = _
    rw [Nat.shiftLeft_zero, Nat.mod_eq_of_lt (show c.toBitVec.toNat % 256 < 2 ^ 32 by omega), Nat.mod_eq_of_lt (show (c.toBitVec.toNat / 256) <<< 8 < 2 ^ 32 by rw [Nat.shiftLeft_eq]; omega), Nat.or_comm, ← Nat.shiftLeft_add_eq_or_of_lt (by omega), Nat.shiftLeft_eq]
    omega
  show BitVec.toNat (((((lo8 c &&& 255) <<< (0 : Int32)) ||| ((hi8 c &&& 255) <<< (8 : Int32))).toBitVec.setWidth 16).setWidth 32) = _
  rw [BitVec.toNat_setWidth, BitVec.toNat_setWidth, g]
  omega
end StrChars
namespace StrChars
open Jvm Sem ClassFile Op Lib Jvm.Stand Jvm.Free.XT Jvm.Free.ALB Jvm.Free.JM Jvm.Free
open Jvm.Lib.Cold (StaticIs)
theorem narrow_ch {c : Int32} (h0 : ¬ c < 0) (h1 : ¬ 65535 < c) : narrow .char (.int c) = .int c := by
  have q : narrow .char (.int (pairCh (lo8 c) (hi8 c))) = .int (pairCh (lo8 c) (hi8 c)) := narrow_c _
  rwa [pair_says h0 h1] at q
end StrChars
end Jvm.Pilot.@@N@@
namespace Jvm.RoadKit
open Sem ClassFile Op Lib Jvm.Stand Jvm.Free Jvm.LawKit
section New
variable {p : Program} {l : Launch} {e : Env} {R : Room} {s : State} {m : MethodId} {args : Array Value} {below : List Frame} {meth : Method} {c : Code} {T : State} {locs : List Loc} {cells slots : Nat}
theorem retI (X : Stand p l e R s m args below meth c T locs cells slots) (hx : p.tables.exec = Jvm.exec) {pc : Nat} {Ls : Array Slot} {z : Int32} {rest : List Value} (hret : meth.sig.returnType = some .int) (hd : decode c.code pc = .ok (.ireturn, 1)) {fs : List Frame}
    (hl : ∀ (f : JFrame) (acts : List Action), f.method = m → f.locked = none → f.entered = [] → (doReturn e (T.setTop f) acts (some (.int z))).1 = T.setFrames fs) : Steps p.tables e below (T.setTop (mkF m pc Ls (.int z :: rest))) (T.setFrames fs) := by
  have hm' : T.vm.method? m = some meth := X.method'
  have hn : narrow .int (.int z) = .int z := rfl
  show Steps p.tables e below (T.setTop { method := m, pc := pc, locals := Ls, stack := _ :: rest, locked := none }) _
  jvm_step X.here [X.here.top, hx, hd, hm', hret, hn]
  first | (intro acts; rw [hl _ acts rfl rfl rfl]) | rw [hl _ _ rfl rfl rfl]
  exact Steps.refl _
end New
end Jvm.RoadKit
namespace Jvm.Pilot.@@N@@
open Jvm Jvm.ClassFile Sem Op Lib Jvm.Free Jvm.Stand Jvm.LawKit Jvm.RoadKit Bundle Jvm.Pilot.@@N@@.Jvm.D
set_option maxRecDepth 65536
set_option maxHeartbeats 40000000
abbrev mn0 : MethodName := (⟨"java/lang/String", "length", "()I"⟩ : MethodName)
abbrev mn1 : MethodName := (⟨"java/lang/String", "isLatin1", "()Z"⟩ : MethodName)
abbrev mn2 : MethodName := (⟨"java/lang/String", "charAt", "(I)C"⟩ : MethodName)
abbrev mn3 : MethodName := (⟨"java/lang/String", "indexOf", "(II)I"⟩ : MethodName)
abbrev mn4 : MethodName := (⟨"com/example/pourcode/pourcode/input/LineCounterCountPinLaw", "stepRef", "(ICCCI)I"⟩ : MethodName)
abbrev mn5 : MethodName := (⟨"java/lang/String", "coder", "()B"⟩ : MethodName)
abbrev mn6 : MethodName := (⟨"java/lang/StringUTF16", "getChar", "([BI)C"⟩ : MethodName)
abbrev mn7 : MethodName := (⟨"com/example/pourcode/pourcode/input/LineCounter", "step", "(C)V"⟩ : MethodName)
abbrev mn8 : MethodName := (⟨"java/lang/Math", "max", "(II)I"⟩ : MethodName)
abbrev mn9 : MethodName := (⟨"com/example/pourcode/pourcode/input/LineCounterCountPinLaw", "ch", "(I)C"⟩ : MethodName)
abbrev mn10 : MethodName := (⟨"java/lang/String", "indexOf", "(I)I"⟩ : MethodName)
abbrev mn11 : MethodName := (⟨"java/lang/Math", "min", "(II)I"⟩ : MethodName)
abbrev mn12 : MethodName := (⟨"java/lang/StringUTF16", "length", "([B)I"⟩ : MethodName)
abbrev mn13 : MethodName := (⟨"java/lang/String", "checkIndex", "(II)V"⟩ : MethodName)
abbrev mn14 : MethodName := (⟨"java/lang/StringUTF16", "putChar", "([BII)V"⟩ : MethodName)
abbrev mn15 : MethodName := (⟨"java/lang/StringUTF16", "checkIndex", "(I[B)V"⟩ : MethodName)
abbrev mn16 : MethodName := (⟨"java/lang/StringUTF16", "charAt", "([BI)C"⟩ : MethodName)
abbrev mn17 : MethodName := (⟨"java/lang/StringLatin1", "charAt", "([BI)C"⟩ : MethodName)
abbrev mn18 : MethodName := (⟨"java/lang/StringLatin1", "indexOf", "([BIII)I"⟩ : MethodName)
abbrev mn19 : MethodName := (⟨"java/lang/StringUTF16", "compress", "([CI[BII)I"⟩ : MethodName)
abbrev mn20 : MethodName := (⟨"java/lang/StringUTF16", "compress", "([CII)[B"⟩ : MethodName)
abbrev mn21 : MethodName := (⟨"java/lang/StringLatin1", "canEncode", "(I)Z"⟩ : MethodName)
abbrev mn22 : MethodName := (⟨"java/lang/StringUTF16", "coderFromArrayLen", "([BI)B"⟩ : MethodName)
abbrev mn23 : MethodName := (⟨"com/example/pourcode/pourcode/input/LineCounter", "<init>", "(Ljava/lang/String;)V"⟩ : MethodName)
abbrev mn24 : MethodName := (⟨"com/example/pourcode/pourcode/input/LineCounter", "count", "([CII)V"⟩ : MethodName)
abbrev mn25 : MethodName := (⟨"com/example/pourcode/pourcode/input/LineCounter", "line", "()I"⟩ : MethodName)
abbrev mn26 : MethodName := (⟨"java/lang/StringLatin1", "canEncode", "(C)Z"⟩ : MethodName)
abbrev mn27 : MethodName := (⟨"java/lang/StringLatin1", "indexOfChar", "([BIII)I"⟩ : MethodName)
abbrev mn28 : MethodName := (⟨"jdk/internal/util/Preconditions", "checkFromToIndex", "(IIILjava/util/function/BiFunction;)I"⟩ : MethodName)
abbrev mn29 : MethodName := (⟨"java/lang/String", "checkBoundsBeginEnd", "(III)V"⟩ : MethodName)
abbrev mn30 : MethodName := (⟨"java/lang/StringUTF16", "checkBoundsBeginEnd", "(II[B)V"⟩ : MethodName)
abbrev mn31 : MethodName := (⟨"java/lang/StringUTF16", "indexOfCharUnsafe", "([BIII)I"⟩ : MethodName)
abbrev mn32 : MethodName := (⟨"java/lang/StringUTF16", "indexOfChar", "([BIII)I"⟩ : MethodName)
abbrev mn33 : MethodName := (⟨"java/lang/StringUTF16", "indexOf", "([BIII)I"⟩ : MethodName)
abbrev mn34 : MethodName := (⟨"java/lang/String", "<init>", "([BB)V"⟩ : MethodName)
abbrev mn35 : MethodName := (⟨"java/lang/String", "valueOf", "(C)Ljava/lang/String;"⟩ : MethodName)
abbrev mn36 : MethodName := (⟨"java/lang/String", "<init>", "([CIILjava/lang/Void;)V"⟩ : MethodName)
abbrev mn37 : MethodName := (⟨"java/lang/String", "<init>", "([C)V"⟩ : MethodName)
abbrev mn38 : MethodName := (⟨"java/lang/StringUTF16", "toBytes", "([CII)[B"⟩ : MethodName)
abbrev mn39 : MethodName := (⟨"com/example/pourcode/pourcode/input/LineCounterCountPinLaw", "piece", "(I[CIICCI)I"⟩ : MethodName)
abbrev ro0 : Room := ({ frames := 0, cells := 0, slots := 0, locals := 0 } : Room)
abbrev ro1 : Room := ({ frames := 1, cells := 0, slots := 0, locals := 13 } : Room)
abbrev ro2 : Room := ({ frames := 4, cells := 0, slots := 0, locals := 53 } : Room)
abbrev ro3 : Room := ({ frames := 2, cells := 0, slots := 0, locals := 27 } : Room)
abbrev ro4 : Room := ({ frames := 6, cells := 0, slots := 0, locals := 87 } : Room)
abbrev ro5 : Room := ({ frames := 5, cells := 0, slots := 0, locals := 67 } : Room)
abbrev ro6 : Room := ({ frames := 3, cells := 0, slots := 0, locals := 40 } : Room)
abbrev sta0 (Z : State) (h : Heap) (v : Value) : Prop := Sta Z h "java/lang/StringUTF16" "$assertionsDisabled" "Z" v
abbrev sta1 (Z : State) (h : Heap) (v : Value) : Prop := Sta Z h "java/lang/StringUTF16" "HI_BYTE_SHIFT" "I" v
abbrev sta2 (Z : State) (h : Heap) (v : Value) : Prop := Sta Z h "java/lang/StringUTF16" "LO_BYTE_SHIFT" "I" v
abbrev sta3 (Z : State) (h : Heap) (v : Value) : Prop := Sta Z h "jdk/internal/util/Preconditions" "SIOOBE_FORMATTER" "Ljava/util/function/BiFunction;" v
abbrev sta4 (Z : State) (h : Heap) (v : Value) : Prop := Sta Z h "java/lang/String" "COMPACT_STRINGS" "Z" v
abbrev fld0 (Z : State) (h : Heap) (a : Addr) (v : Value) : Prop := Fld Z h a "java/lang/String" "coder" "B" v
abbrev fld1 (Z : State) (h : Heap) (a : Addr) (v : Value) : Prop := Fld Z h a "java/lang/String" "value" "[B" v
abbrev fld2 (Z : State) (h : Heap) (a : Addr) (v : Value) : Prop := Fld Z h a "com/example/pourcode/pourcode/input/LineCounter" "line" "I" v
abbrev fld3 (Z : State) (h : Heap) (a : Addr) (v : Value) : Prop := Fld Z h a "com/example/pourcode/pourcode/input/LineCounter" "afterReturn" "Z" v
abbrev fld4 (Z : State) (h : Heap) (a : Addr) (v : Value) : Prop := Fld Z h a "com/example/pourcode/pourcode/input/LineCounter" "breaks" "Ljava/lang/String;" v
abbrev fld5 (Z : State) (h : Heap) (a : Addr) (v : Value) : Prop := Fld Z h a "com/example/pourcode/pourcode/input/LineCounter" "highest" "C" v
abbrev exa0 (Z : State) (h : Heap) (a : Addr) : Prop := Exa Z h a "java/lang/String"
abbrev exa1 (Z : State) (h : Heap) (a : Addr) : Prop := Exa Z h a "com/example/pourcode/pourcode/input/LineCounter"
abbrev kb0 : ByteArray := method_3_code
abbrev kb1 : ByteArray := method_4_code
abbrev kb2 : ByteArray := prog_59_method_6_code
abbrev kb3 : ByteArray := prog_59_method_1_code
abbrev kb4 : ByteArray := jdk_52_method_16_code
abbrev kb5 : ByteArray := jdk_43_method_22_code
abbrev kb6 : ByteArray := jdk_52_method_21_code
abbrev kb7 : ByteArray := jdk_52_method_5_code
abbrev kb8 : ByteArray := jdk_52_method_4_code
abbrev kb9 : ByteArray := jdk_52_method_40_code
abbrev kb10 : ByteArray := jdk_42_method_80_code
abbrev kb11 : ByteArray := jdk_42_method_56_code
abbrev kb12 : ByteArray := jdk_42_method_149_code
abbrev kb13 : ByteArray := method_2_code
abbrev kb14 : ByteArray := jdk_43_method_23_code
abbrev kb15 : ByteArray := jdk_42_method_139_code
abbrev kb16 : ByteArray := jdk_52_method_14_code
abbrev kb17 : ByteArray := jdk_52_method_48_code
abbrev kb18 : ByteArray := prog_59_method_4_code
abbrev kb19 : ByteArray := jdk_42_method_54_code
abbrev kb20 : ByteArray := jdk_43_method_2_code
abbrev kb21 : ByteArray := jdk_41_method_12_code
abbrev kb22 : ByteArray := jdk_52_method_47_code
abbrev kb23 : ByteArray := jdk_42_method_154_code
abbrev kb24 : ByteArray := jdk_42_method_79_code
abbrev kb25 : ByteArray := jdk_42_method_151_code
abbrev kb26 : ByteArray := jdk_43_method_4_code
abbrev kb27 : ByteArray := jdk_52_method_83_code
abbrev kb28 : ByteArray := jdk_52_method_24_code
abbrev kb29 : ByteArray := jdk_52_method_3_code
abbrev kb30 : ByteArray := jdk_52_method_15_code
abbrev kb31 : ByteArray := jdk_42_method_3_code
abbrev kb32 : ByteArray := jdk_42_method_158_code
abbrev kb33 : ByteArray := jdk_43_method_46_code
abbrev kb34 : ByteArray := jdk_29_method_65_code
abbrev kb35 : ByteArray := jdk_29_method_69_code
abbrev kb36 : ByteArray := jdk_43_method_3_code
abbrev kb37 : ByteArray := jdk_41_method_11_code
abbrev kb38 : ByteArray := jdk_52_method_91_code
abbrev kb39 : ByteArray := jdk_42_method_152_code
abbrev kb40 : ByteArray := jdk_52_method_93_code
abbrev kb41 : ByteArray := jdk_52_method_6_code
abbrev kb42 : ByteArray := jdk_42_method_155_code
abbrev kb43 : ByteArray := jdk_52_method_2_code
abbrev kb44 : ByteArray := prog_59_method_5_code
abbrev un : Slot := .unset
abbrev HW (a0 : Array Value) (Z : State) : Prop := ∀ d ∈ tables_1, d.before a0 Z = true
abbrev MF (l : Launch) (Z : State) (h0 : Heap) (y : MethodName) (code : ByteArray) (n : Nat) (rt : Option FieldType) (ws : List Jvm.Cond) (R : Room) (A : Array Value) (Q : Option Value → Heap → List Loc → Prop) : Prop := MetFree l y (head1 (Jvm.Cond.code y code n rt :: ws) R) (fun a U => a = A ∧ Z.Warmed39 U.vm ∧ U.heap = h0) (fun _ _ _ _ _ => True) (fun _ U o U' => ∃ v L, o = .returned v ∧ Q v U'.heap L ∧ FrameEnd U o U' L R.cells R.slots)
abbrev SQ (p : Program) (e : Env) (below : List Frame) (m : MethodId) (T : State) (pc : Nat) (L : Array Slot) (S : List Value) (t : State) : Prop := Steps p.tables e below (T.setTop (mkF m pc L S)) t
abbrev PQ (p : Program) (e : Env) (below : List Frame) (m : MethodId) (S0 T : State) (pc : Nat) (L : Array Slot) (S : List Value) : Prop := ∀ t, Steps p.tables e below (T.setTop (mkF m pc L S)) t → Steps p.tables e below S0 t
theorem own_go {l : Launch} {Z : State} {h0 : Heap} {y : MethodName} {code : ByteArray} {n : Nat} {rt : Option FieldType} {ws : List Jvm.Cond} {R : Room} {A : Array Value} {Q : Option Value → Heap → List Loc → Prop} (own : String) (ho : y.cls = own) (L : Array Slot) (hef : ∀ m, entryFrame m A n = mkF m 0 L []) (hp : plainFor y = true)
    (k : ∀ (p : Program) (e : Env) (s : State) (m : MethodId) (below : List Frame) (meth : Method) (c : Code) (s₁ S0 : State), BodyLoose p l y (head1 (Jvm.Cond.code y code n rt :: ws) R) code n rt e s m A below meth c s₁ → p.tables.exec = Jvm.exec → c.code = code → c.maxLocals = n → s.vm.findClass own = some m.cls → Z.Warmed39 s.vm → Stand p l e R s m A below meth c s₁ [] 0 0 → s₁.heap = h0 → PQ p e below m S0 s₁ 0 L [] → ∃ s₂ o, Steps p.tables e below S0 s₂ ∧ s₂.status = .running ∧ Ended s₂ below o ∧ ∃ v L, o = .returned v ∧ Q v s₂.heap L ∧ FrameEnd s o s₂ L R.cells R.slots) : MF l Z h0 y code n rt ws R A Q := by
  refine MetFree.of_bodySF hp hisR ?_
  intro p e s m args below meth c s₁ Bd hml0 hP hK
  obtain ⟨rfl, hZ, hh⟩ := hP
  exact k p e s m below meth c s₁ _ Bd Bd.exec Bd.bytes hml0 (ho ▸ findClass_of_methodNamed Bd.named) hZ (Stand.of_body Bd) (by rw [← hh, Bd.state]; rfl) (fun t q => castTop (hef m) q)
theorem wi {a0 : Array Value} {Z : State} (hw : HW a0 Z) (i : Nat) {d : Jvm.Cond} (h : tables_1[i]? = some d) : d.before a0 Z = true := hw _ (List.mem_of_getElem? h)
theorem own_sel {s : State} {args : Array Value} {y : MethodName} {n : Nat} (wi : (Cond.instantiable y.cls n).before args s = true) (hp : s.PrivateAt y) (hi : (Cond.instanceMethod y).before args s = true) (hy : y.cls ≠ "java/lang/invoke/MethodHandle" ∧ y.cls ≠ "java/lang/invoke/VarHandle") : (Cond.selects y.cls y y).before args s = true := by
  obtain ⟨c, k, h1, h2, -, h4, -⟩ := Cond.instantiable_spec wi
  exact Jvm.Stand.selects_self_of_private h1 h2 (by cases q : k.isInterface <;> simp_all) hp hi hy
theorem mw {Z s : State} {a0 args : Array Value} {d : Jvm.Cond} (hZ : Z.Warmed39 s.vm) (hw : HW a0 Z) (i : Nat) (h : tables_1[i]? = some d) (hd : (d.onTables && d.keepsFace) = true := by first | rfl | simp [Cond.onTables, Cond.keepsFace, Cond.keeps, Cond.steady]) : d.before args s = true := mvT hZ (wi hw i h) hd
theorem pn_0 : plainName "com/example/pourcode/pourcode/input/LineCounterCountPinLaw" = true := by first | (simp [plainName, overriddenIn]; done) | decide +kernel
theorem pn_1 : plainName "java/lang/StringLatin1" = true := by first | (simp [plainName, overriddenIn]; done) | decide +kernel
theorem pn_2 : plainName "java/lang/StringUTF16" = true := by first | (simp [plainName, overriddenIn]; done) | decide +kernel
theorem pn_3 : plainName "jdk/internal/util/Preconditions" = true := by first | (simp [plainName, overriddenIn]; done) | decide +kernel
theorem pn_4 : plainName "java/lang/String" = true := by first | (simp [plainName, overriddenIn]; done) | decide +kernel
theorem pd_0 : parseMethodDescriptor "(IILjava/util/function/BiFunction;)I" = some ⟨[.int, .int, (.object "java/util/function/BiFunction")], some .int⟩ := by decide +kernel
theorem pd_1 : parseMethodDescriptor "([B)I" = some ⟨[(.array .byte)], some .int⟩ := by decide +kernel
theorem pd_2 : parseMethodDescriptor "(II)V" = some ⟨[.int, .int], none⟩ := by decide +kernel
theorem pd_3 : parseMethodDescriptor "(I[B)V" = some ⟨[.int, (.array .byte)], none⟩ := by decide +kernel
theorem pd_4 : parseMethodDescriptor "([BI)C" = some ⟨[(.array .byte), .int], some .char⟩ := by decide +kernel
theorem pd_5 : parseMethodDescriptor "()B" = some ⟨[], some .byte⟩ := by decide +kernel
theorem pd_6 : parseMethodDescriptor "()Z" = some ⟨[], some .boolean⟩ := by decide +kernel
theorem pd_7 : parseMethodDescriptor "(I)Z" = some ⟨[.int], some .boolean⟩ := by decide +kernel
theorem pd_8 : parseMethodDescriptor "(II)I" = some ⟨[.int, .int], some .int⟩ := by decide +kernel
theorem pd_9 : parseMethodDescriptor "([BIII)I" = some ⟨[(.array .byte), .int, .int, .int], some .int⟩ := by decide +kernel
theorem pd_10 : parseMethodDescriptor "(IIILjava/util/function/BiFunction;)I" = some ⟨[.int, .int, .int, (.object "java/util/function/BiFunction")], some .int⟩ := by decide +kernel
theorem pd_11 : parseMethodDescriptor "(III)V" = some ⟨[.int, .int, .int], none⟩ := by decide +kernel
theorem pd_12 : parseMethodDescriptor "(II[B)V" = some ⟨[.int, .int, (.array .byte)], none⟩ := by decide +kernel
theorem pd_13 : parseMethodDescriptor "()I" = some ⟨[], some .int⟩ := by decide +kernel
theorem pd_14 : parseMethodDescriptor "([BII)V" = some ⟨[(.array .byte), .int, .int], none⟩ := by decide +kernel
theorem pd_15 : parseMethodDescriptor "(C)Z" = some ⟨[.char], some .boolean⟩ := by decide +kernel
theorem pd_16 : parseMethodDescriptor "(C)[B" = some ⟨[.char], some (.array .byte)⟩ := by decide +kernel
theorem pd_17 : parseMethodDescriptor "([BB)V" = some ⟨[(.array .byte), .byte], none⟩ := by decide +kernel
theorem pd_18 : parseMethodDescriptor "(I)I" = some ⟨[.int], some .int⟩ := by decide +kernel
theorem pd_19 : parseMethodDescriptor "(I)[B" = some ⟨[.int], some (.array .byte)⟩ := by decide +kernel
theorem pd_20 : parseMethodDescriptor "([CI[BII)I" = some ⟨[(.array .char), .int, (.array .byte), .int, .int], some .int⟩ := by decide +kernel
theorem pd_21 : parseMethodDescriptor "([CII)[B" = some ⟨[(.array .char), .int, .int], some (.array .byte)⟩ := by decide +kernel
theorem pd_22 : parseMethodDescriptor "([BI)B" = some ⟨[(.array .byte), .int], some .byte⟩ := by decide +kernel
theorem pd_23 : parseMethodDescriptor "([CIILjava/lang/Void;)V" = some ⟨[(.array .char), .int, .int, (.object "java/lang/Void")], none⟩ := by decide +kernel
theorem pn_5 : plainName "com/example/pourcode/pourcode/input/LineCounter" = true := by first | (simp [plainName, overriddenIn]; done) | decide +kernel
theorem pd_24 : parseMethodDescriptor "(I)C" = some ⟨[.int], some .char⟩ := by decide +kernel
theorem pd_25 : parseMethodDescriptor "(C)V" = some ⟨[.char], none⟩ := by decide +kernel
theorem pd_26 : parseMethodDescriptor "(ICCCI)I" = some ⟨[.int, .char, .char, .char, .int], some .int⟩ := by decide +kernel
theorem pd_27 : parseMethodDescriptor "(C)Ljava/lang/String;" = some ⟨[.char], some (.object "java/lang/String")⟩ := by decide +kernel
theorem pd_28 : parseMethodDescriptor "([C)V" = some ⟨[(.array .char)], none⟩ := by decide +kernel
theorem pd_29 : parseMethodDescriptor "(I[CIICCI)I" = some ⟨[.int, (.array .char), .int, .int, .char, .char, .int], some .int⟩ := by decide +kernel
theorem pd_30 : parseMethodDescriptor "(Ljava/lang/String;)V" = some ⟨[(.object "java/lang/String")], none⟩ := by decide +kernel
theorem pd_31 : parseMethodDescriptor "([CII)V" = some ⟨[(.array .char), .int, .int], none⟩ := by decide +kernel
abbrev PP (p : Program) (e : Env) (below : List Frame) (A B : State) : Prop := ∀ t, Steps p.tables e below A t → Steps p.tables e below B t
theorem ow_iload {tb : Tables} [Ours tb] {e : Env} {below : List Frame} {T target : State} {m : MethodId} {c : Code} {pc : Nat} {L : Array Slot} {k : Nat} {v : Int32} {S : List Value} (h : At T m c below) (hx : tb.exec = Jvm.exec) {K : ByteArray} (hby : c.code = K) (hd0 : decode K pc = .ok (.iload k, 2)) (hl : L[k]? = some (.val (.int v))) (hr : Steps tb e below (T.setTop (mkF m (pc + 2) L (.int v :: S))) target) : Steps tb e below (T.setTop (mkF m pc L S)) target := have hd := hb hby hd0; XS.iload h hx rfl hd hl hr
theorem ow_aload {tb : Tables} [Ours tb] {e : Env} {below : List Frame} {T target : State} {m : MethodId} {c : Code} {pc : Nat} {L : Array Slot} {k : Nat} {v : Value} {S : List Value} (h : At T m c below) (hx : tb.exec = Jvm.exec) {K : ByteArray} (hby : c.code = K) (hd0 : decode K pc = .ok (.aload k, 2)) (hl : L[k]? = some (.val v)) (hv : v.isRef = true) (hr : Steps tb e below (T.setTop (mkF m (pc + 2) L (v :: S))) target) : Steps tb e below (T.setTop (mkF m pc L S)) target := have hd := hb hby hd0; XS.aload h hx rfl hd hl hv hr
theorem ow_istore {tb : Tables} [Ours tb] {e : Env} {below : List Frame} {T target : State} {m : MethodId} {c : Code} {pc : Nat} {L : Array Slot} {k : Nat} {x : Int32} {l' : Array Slot} {S : List Value} (h : At T m c below) (hx : tb.exec = Jvm.exec) {K : ByteArray} (hby : c.code = K) (hd0 : decode K pc = .ok (.istore k, 2)) (hl : storeLocals L k (.int x) = some l') (hr : Steps tb e below (T.setTop (mkF m (pc + 2) l' S)) target) : Steps tb e below (T.setTop (mkF m pc L (.int x :: S))) target := have hd := hb hby hd0; XS.istore h hx rfl hd rfl hl hr
theorem ow_astore {tb : Tables} [Ours tb] {e : Env} {below : List Frame} {T target : State} {m : MethodId} {c : Code} {pc : Nat} {L : Array Slot} {k : Nat} {x : Value} {l' : Array Slot} {S : List Value} (h : At T m c below) (hx : tb.exec = Jvm.exec) {K : ByteArray} (hby : c.code = K) (hd0 : decode K pc = .ok (.astore k, 2)) (hv : x.isRef = true) (hl : storeLocals L k x = some l') (hr : Steps tb e below (T.setTop (mkF m (pc + 2) l' S)) target) : Steps tb e below (T.setTop (mkF m pc L (x :: S))) target := have hd := hb hby hd0; XS.astore h hx rfl hd rfl hv hl hr
theorem ow_iloadN {tb : Tables} [Ours tb] {e : Env} {below : List Frame} {T target : State} {m : MethodId} {c : Code} {pc : Nat} {L : Array Slot} {k : Fin 4} {v : Int32} {S : List Value} (h : At T m c below) (hx : tb.exec = Jvm.exec) {K : ByteArray} (hby : c.code = K) (hd0 : decode K pc = .ok (.iload_n k, 1)) (hl : L[k.val]? = some (.val (.int v))) (hr : Steps tb e below (T.setTop (mkF m (pc + 1) L (.int v :: S))) target) : Steps tb e below (T.setTop (mkF m pc L S)) target := have hd := hb hby hd0; XS.iloadN h hx rfl hd hl hr
theorem ow_aloadN {tb : Tables} [Ours tb] {e : Env} {below : List Frame} {T target : State} {m : MethodId} {c : Code} {pc : Nat} {L : Array Slot} {k : Fin 4} {v : Value} {S : List Value} (h : At T m c below) (hx : tb.exec = Jvm.exec) {K : ByteArray} (hby : c.code = K) (hd0 : decode K pc = .ok (.aload_n k, 1)) (hl : L[k.val]? = some (.val v)) (hv : v.isRef = true) (hr : Steps tb e below (T.setTop (mkF m (pc + 1) L (v :: S))) target) : Steps tb e below (T.setTop (mkF m pc L S)) target := have hd := hb hby hd0; XS.aloadN h hx rfl hd hl hv hr
theorem ow_istoreN {tb : Tables} [Ours tb] {e : Env} {below : List Frame} {T target : State} {m : MethodId} {c : Code} {pc : Nat} {L : Array Slot} {k : Fin 4} {x : Int32} {l' : Array Slot} {S : List Value} (h : At T m c below) (hx : tb.exec = Jvm.exec) {K : ByteArray} (hby : c.code = K) (hd0 : decode K pc = .ok (.istore_n k, 1)) (hl : storeLocals L k.val (.int x) = some l') (hr : Steps tb e below (T.setTop (mkF m (pc + 1) l' S)) target) : Steps tb e below (T.setTop (mkF m pc L (.int x :: S))) target := have hd := hb hby hd0; XS.istoreN h hx rfl hd rfl hl hr
theorem ow_astoreN {tb : Tables} [Ours tb] {e : Env} {below : List Frame} {T target : State} {m : MethodId} {c : Code} {pc : Nat} {L : Array Slot} {k : Fin 4} {x : Value} {l' : Array Slot} {S : List Value} (h : At T m c below) (hx : tb.exec = Jvm.exec) {K : ByteArray} (hby : c.code = K) (hd0 : decode K pc = .ok (.astore_n k, 1)) (hv : x.isRef = true) (hl : storeLocals L k.val x = some l') (hr : Steps tb e below (T.setTop (mkF m (pc + 1) l' S)) target) : Steps tb e below (T.setTop (mkF m pc L (x :: S))) target := have hd := hb hby hd0; XS.astoreN h hx rfl hd rfl hv hl hr
theorem ow_iconst {tb : Tables} [Ours tb] {e : Env} {below : List Frame} {T target : State} {m : MethodId} {c : Code} {pc : Nat} {L : Array Slot} {i : Int} {v : Int32} {S : List Value} (h : At T m c below) (hx : tb.exec = Jvm.exec) {K : ByteArray} (hby : c.code = K) (hd0 : decode K pc = .ok (.iconst i, 1)) (hv : Int32.ofInt i = v) (hr : Steps tb e below (T.setTop (mkF m (pc + 1) L (.int v :: S))) target) : Steps tb e below (T.setTop (mkF m pc L S)) target := have hd := hb hby hd0; XS.iconst h hx rfl hd (hv ▸ hr)
theorem ow_bipush {tb : Tables} [Ours tb] {e : Env} {below : List Frame} {T target : State} {m : MethodId} {c : Code} {pc : Nat} {L : Array Slot} {i : Int} {v : Int32} {S : List Value} (h : At T m c below) (hx : tb.exec = Jvm.exec) {K : ByteArray} (hby : c.code = K) (hd0 : decode K pc = .ok (.bipush i, 2)) (hv : (Int8.ofInt i).toInt32 = v) (hr : Steps tb e below (T.setTop (mkF m (pc + 2) L (.int v :: S))) target) : Steps tb e below (T.setTop (mkF m pc L S)) target := have hd := hb hby hd0; XS.bipush h hx rfl hd (hv ▸ hr)
theorem ow_sipush {tb : Tables} [Ours tb] {e : Env} {below : List Frame} {T target : State} {m : MethodId} {c : Code} {pc : Nat} {L : Array Slot} {i : Int} {v : Int32} {S : List Value} (h : At T m c below) (hx : tb.exec = Jvm.exec) {K : ByteArray} (hby : c.code = K) (hd0 : decode K pc = .ok (.sipush i, 3)) (hv : (Int16.ofInt i).toInt32 = v) (hr : Steps tb e below (T.setTop (mkF m (pc + 3) L (.int v :: S))) target) : Steps tb e below (T.setTop (mkF m pc L S)) target := have hd := hb hby hd0; XS.sipush h hx rfl hd (hv ▸ hr)
theorem ow_iadd {tb : Tables} [Ours tb] {e : Env} {below : List Frame} {T target : State} {m : MethodId} {c : Code} {pc : Nat} {L : Array Slot} {x y : Int32} {S : List Value} (h : At T m c below) (hx : tb.exec = Jvm.exec) {K : ByteArray} (hby : c.code = K) (hd0 : decode K pc = .ok (.iadd, 1))  (hr : Steps tb e below (T.setTop (mkF m (pc + 1) L (.int (x + y) :: S))) target) : Steps tb e below (T.setTop (mkF m pc L (.int y :: .int x :: S))) target := have hd := hb hby hd0; XS.iadd h hx rfl hd rfl hr
theorem ow_isub {tb : Tables} [Ours tb] {e : Env} {below : List Frame} {T target : State} {m : MethodId} {c : Code} {pc : Nat} {L : Array Slot} {x y : Int32} {S : List Value} (h : At T m c below) (hx : tb.exec = Jvm.exec) {K : ByteArray} (hby : c.code = K) (hd0 : decode K pc = .ok (.isub, 1))  (hr : Steps tb e below (T.setTop (mkF m (pc + 1) L (.int (x - y) :: S))) target) : Steps tb e below (T.setTop (mkF m pc L (.int y :: .int x :: S))) target := have hd := hb hby hd0; XS.isub h hx rfl hd rfl hr
theorem ow_iand {tb : Tables} [Ours tb] {e : Env} {below : List Frame} {T target : State} {m : MethodId} {c : Code} {pc : Nat} {L : Array Slot} {x y : Int32} {S : List Value} (h : At T m c below) (hx : tb.exec = Jvm.exec) {K : ByteArray} (hby : c.code = K) (hd0 : decode K pc = .ok (.iand, 1))  (hr : Steps tb e below (T.setTop (mkF m (pc + 1) L (.int (x &&& y) :: S))) target) : Steps tb e below (T.setTop (mkF m pc L (.int y :: .int x :: S))) target := have hd := hb hby hd0; XS.iand h hx rfl hd rfl hr
theorem ow_imul {tb : Tables} [Ours tb] {e : Env} {below : List Frame} {T target : State} {m : MethodId} {c : Code} {pc : Nat} {L : Array Slot} {x y : Int32} {S : List Value} (h : At T m c below) (hx : tb.exec = Jvm.exec) {K : ByteArray} (hby : c.code = K) (hd0 : decode K pc = .ok (.imul, 1))  (hr : Steps tb e below (T.setTop (mkF m (pc + 1) L (.int (x * y) :: S))) target) : Steps tb e below (T.setTop (mkF m pc L (.int y :: .int x :: S))) target := have hd := hb hby hd0; XS.imul h hx rfl hd rfl hr
theorem ow_ior {tb : Tables} [Ours tb] {e : Env} {below : List Frame} {T target : State} {m : MethodId} {c : Code} {pc : Nat} {L : Array Slot} {x y : Int32} {S : List Value} (h : At T m c below) (hx : tb.exec = Jvm.exec) {K : ByteArray} (hby : c.code = K) (hd0 : decode K pc = .ok (.ior, 1))  (hr : Steps tb e below (T.setTop (mkF m (pc + 1) L (.int (x ||| y) :: S))) target) : Steps tb e below (T.setTop (mkF m pc L (.int y :: .int x :: S))) target := have hd := hb hby hd0; XS.ior h hx rfl hd rfl hr
theorem ow_dup {tb : Tables} [Ours tb] {e : Env} {below : List Frame} {T target : State} {m : MethodId} {c : Code} {pc : Nat} {L : Array Slot} {x : Value} {S : List Value} (h : At T m c below) (hx : tb.exec = Jvm.exec) {K : ByteArray} (hby : c.code = K) (hd0 : decode K pc = .ok (.dup, 1)) (hc : x.category = 1) (hr : Steps tb e below (T.setTop (mkF m (pc + 1) L (x :: x :: S))) target) : Steps tb e below (T.setTop (mkF m pc L (x :: S))) target := have hd := hb hby hd0; XS.dup h hx rfl hd rfl hc hr
theorem ow_iinc {tb : Tables} [Ours tb] {e : Env} {below : List Frame} {T target : State} {m : MethodId} {c : Code} {pc : Nat} {L : Array Slot} {k : Nat} {cst : Int} {x : Int32} {l' : Array Slot} {S : List Value} (h : At T m c below) (hx : tb.exec = Jvm.exec) {K : ByteArray} (hby : c.code = K) (hd0 : decode K pc = .ok (.iinc k cst, 3)) (hl : L[k]? = some (.val (.int x))) (hl' : storeLocals L k (.int (x + Int32.ofInt cst)) = some l') (hr : Steps tb e below (T.setTop (mkF m (pc + 3) l' S)) target) : Steps tb e below (T.setTop (mkF m pc L S)) target := have hd := hb hby hd0; XS.iinc h hx rfl hd hl hl' hr
theorem ow_iaload {p : Program} {l : Launch} {e : Env} {R : Room} {s : State} {m : MethodId} {args : Array Value} {below : List Frame} {meth : Method} {c : Code} {T target Z : State} {locs : List Loc} {cells slots pc : Nat} {h : Heap} {a : Addr} {cl : Cell} {j : Int32} {v : Value} {L : Array Slot} {S : List Value} {K : ByteArray} (X : Stand p l e R s m args below meth c T locs cells slots) (hx : p.tables.exec = Jvm.exec) (hZ : Z.Warmed39 s.vm) (eT : T.heap = h) (A : Arr Z h a cl .int) (hin : ¬ (j < 0 ∨ cl.slots.size ≤ j.toNatClampNeg)) (hv : cl.slots[j.toNatClampNeg]? = some v) (hby : c.code = K) (hd : decode K pc = .ok (.iaload, 1)) (hr : Steps p.tables e below (T.setTop (mkF m (pc + 1) L (v :: S))) target) : Steps p.tables e below (T.setTop (mkF m pc L (.int j :: .ref a :: S))) target := X.iaload hx (j := j) (v := v) (by rw [eT]; exact A.1) (State.isArrayOf_alike hZ.alike A.2.1) A.2.2 hin hv (g := mkF m pc L (.int j :: .ref a :: S)) rfl rfl (hb hby hd) _ hr
theorem ow_getF {p : Program} {l : Launch} {e : Env} {R : Room} {s : State} {m : MethodId} {args : Array Value} {below : List Frame} {meth : Method} {c : Code} {T S0 Z : State} {locs : List Loc} {cells slots pc : Nat} {h : Heap} {a : Addr} {L : Array Slot} {S : List Value} {K : ByteArray} {a0 : Array Value} {own R0 O n d host : String} {index : Nat} {v : Value} (pre : PQ p e below m S0 T pc L (.ref a :: S)) (X : Stand p l e R s m args below meth c T locs cells slots) (hx : p.tables.exec = Jvm.exec) (hZ : Z.Warmed39 s.vm) (hown : s.vm.findClass own = some m.cls) (w : (Cond.fieldLink own index R0 n d).before a0 Z = true ∨ (Cond.fieldLinkNest own index R0 n d host).before a0 Z = true) (via : Via Z R0 O n d) (eT : T.heap = h) (F : Fld Z h a O n d v) (hby : c.code = K) (hd : decode K pc = .ok (.getfield index, 3)) : ∃ T', Stand p l e R s m args below meth c T' locs cells slots ∧ T'.heap = h ∧ PQ p e below m S0 T' (pc + 3) L (v :: S) := by
  obtain ⟨T', X', e', st⟩ := getF X hx hZ hown w via eT F (g := mkF m pc L (.ref a :: S)) rfl rfl (hb hby hd)
  exact ⟨T', X', e', fun t kt => pre t (st _ kt)⟩
theorem ow_putF {p : Program} {l : Launch} {e : Env} {R : Room} {s : State} {m : MethodId} {args : Array Value} {below : List Frame} {meth : Method} {c : Code} {T S0 Z : State} {locs : List Loc} {cells slots pc : Nat} {h : Heap} {a : Addr} {L : Array Slot} {S : List Value} {K : ByteArray} {a0 : Array Value} {own R0 O n d host C : String} {index kk : Nat} {ty : FieldType} {v old : Value} (pre : PQ p e below m S0 T pc L (v :: .ref a :: S)) (X : Stand p l e R s m args below meth c T locs cells slots) (hx : p.tables.exec = Jvm.exec) (hZ : Z.Warmed39 s.vm) (hown : s.vm.findClass own = some m.cls) (w : (Cond.fieldLink own index R0 n d).before a0 Z = true ∨ (Cond.fieldLinkNest own index R0 n d host).before a0 Z = true) (via : Via Z R0 O n d) (eT : T.heap = h) (F : Fld Z h a O n d old) (E : Exa Z h a C) (Ly : (Cond.lays C O n d).before a0 Z = true ∨ ((Cond.laysFinal C O n d).before a0 Z = true ∧ own = O ∧ meth.name = "<init>")) (wi : (Cond.instantiable C kk).before a0 Z = true) (hty : parseFieldDescriptor d = some ty) (hn : narrow ty v = v) (hf : fits ty v = true) (hby : c.code = K) (hd : decode K pc = .ok (.putfield index, 3)) : ∃ T' h', Stand p l e R s m args below meth c T' (locs ++ [⟨a, RoadKit.slotOf Z O n d⟩]) cells slots ∧ T'.heap = h' ∧ Wr h h' a (RoadKit.slotOf Z O n d) v ∧ PQ p e below m S0 T' (pc + 3) L S := by
  obtain ⟨T', h', X', e', W, st⟩ := putF X hx hZ hown w via eT F E Ly wi hty hn hf (g := mkF m pc L (v :: .ref a :: S)) rfl rfl (hb hby hd)
  exact ⟨T', h', X', e', W, fun t kt => pre t (st _ kt)⟩
theorem ow_stI {p : Program} {l : Launch} {e : Env} {R : Room} {s : State} {m : MethodId} {args : Array Value} {below : List Frame} {meth : Method} {c : Code} {T S0 Z : State} {locs : List Loc} {cells slots pc : Nat} {h : Heap} {a : Addr} {L : Array Slot} {S : List Value} {K : ByteArray} {cl : Cell} {j x : Int32} (pre : PQ p e below m S0 T pc L (.int x :: .int j :: .ref a :: S)) (X : Stand p l e R s m args below meth c T locs cells slots) (hx : p.tables.exec = Jvm.exec) (hZ : Z.Warmed39 s.vm) (eT : T.heap = h) (A : Arr Z h a cl .int) (hj : ¬ (j < 0 ∨ cl.slots.size ≤ j.toNatClampNeg)) (hby : c.code = K) (hd : decode K pc = .ok (.iastore, 1)) : ∃ T' h', Stand p l e R s m args below meth c T' (locs ++ [⟨a, j.toNatClampNeg⟩]) cells slots ∧ T'.heap = h' ∧ Wr h h' a j.toNatClampNeg (.int x) ∧ PQ p e below m S0 T' (pc + 1) L S := by
  obtain ⟨T', h', X', e', W, st⟩ := stI X hx hZ eT A hj (g := mkF m pc L (.int x :: .int j :: .ref a :: S)) rfl rfl (hb hby hd)
  exact ⟨T', h', X', e', W, fun t kt => pre t (st _ kt)⟩
theorem ow_goto {tb : Tables} [Ours tb] {e : Env} {below : List Frame} {T target : State} {m : MethodId} {c : Code} {pc : Nat} {L : Array Slot} {o : Int} {pc' : Nat} {S : List Value} (h : At T m c below) (hx : tb.exec = Jvm.exec) {K : ByteArray} (hby : c.code = K) (hd0 : decode K pc = .ok (.goto o, 3)) (ho : 0 ≤ (pc : Int) + o) (hp : ((pc : Int) + o).toNat = pc') (hr : Steps tb e below (T.setTop (mkF m pc' L S)) target) : Steps tb e below (T.setTop (mkF m pc L S)) target := have hd := hb hby hd0; XS.goto h hx rfl rfl hd ho hp hr
theorem ow_ifYes {tb : Tables} [Ours tb] {e : Env} {below : List Frame} {T target : State} {m : MethodId} {c : Code} {pc : Nat} {L : Array Slot} {cd : ClassFile.Cond} {o : Int} {x : Int32} {pc' : Nat} {S : List Value} (h : At T m c below) (hx : tb.exec = Jvm.exec) {K : ByteArray} (hby : c.code = K) (hd0 : decode K pc = .ok (.ifCond cd o, 3)) (hc : ifCond.holds cd x = true) (ho : 0 ≤ (pc : Int) + o) (hp : ((pc : Int) + o).toNat = pc') (hr : Steps tb e below (T.setTop (mkF m pc' L S)) target) : Steps tb e below (T.setTop (mkF m pc L (.int x :: S))) target := have hd := hb hby hd0; XS.ifYes h hx rfl rfl hd rfl hc ho hp hr
theorem ow_ifNo {tb : Tables} [Ours tb] {e : Env} {below : List Frame} {T target : State} {m : MethodId} {c : Code} {pc : Nat} {L : Array Slot} {cd : ClassFile.Cond} {o : Int} {x : Int32} {S : List Value} (h : At T m c below) (hx : tb.exec = Jvm.exec) {K : ByteArray} (hby : c.code = K) (hd0 : decode K pc = .ok (.ifCond cd o, 3)) (hc : ifCond.holds cd x = false) (hr : Steps tb e below (T.setTop (mkF m (pc + 3) L S)) target) : Steps tb e below (T.setTop (mkF m pc L (.int x :: S))) target := have hd := hb hby hd0; XS.ifNo h hx rfl hd rfl hc hr
theorem ow_icmpYes {tb : Tables} [Ours tb] {e : Env} {below : List Frame} {T target : State} {m : MethodId} {c : Code} {pc : Nat} {L : Array Slot} {cd : ClassFile.Cond} {o : Int} {x y : Int32} {pc' : Nat} {S : List Value} (h : At T m c below) (hx : tb.exec = Jvm.exec) {K : ByteArray} (hby : c.code = K) (hd0 : decode K pc = .ok (.if_icmp cd o, 3)) (hc : if_icmp.holds cd x y = true) (ho : 0 ≤ (pc : Int) + o) (hp : ((pc : Int) + o).toNat = pc') (hr : Steps tb e below (T.setTop (mkF m pc' L S)) target) : Steps tb e below (T.setTop (mkF m pc L (.int y :: .int x :: S))) target := have hd := hb hby hd0; XS.icmpYes h hx rfl rfl hd rfl hc ho hp hr
theorem ow_icmpNo {tb : Tables} [Ours tb] {e : Env} {below : List Frame} {T target : State} {m : MethodId} {c : Code} {pc : Nat} {L : Array Slot} {cd : ClassFile.Cond} {o : Int} {x y : Int32} {S : List Value} (h : At T m c below) (hx : tb.exec = Jvm.exec) {K : ByteArray} (hby : c.code = K) (hd0 : decode K pc = .ok (.if_icmp cd o, 3)) (hc : if_icmp.holds cd x y = false) (hr : Steps tb e below (T.setTop (mkF m (pc + 3) L S)) target) : Steps tb e below (T.setTop (mkF m pc L (.int y :: .int x :: S))) target := have hd := hb hby hd0; XS.icmpNo h hx rfl hd rfl hc hr

theorem own_neArv {Z : State} {h : Heap} {a b : Addr} {C : String} {a0 : Array Value} {k : Nat} {kd : ClassId} {ty : FieldType} {n : Int32} {vs : List Value} {d : Value} (F : Exa Z h a C) (wi : (Cond.instantiable C k).before a0 Z = true) (G : Arv Z h b kd ty n vs d) : a ≠ b := by
  obtain ⟨c, A, -⟩ := G
  exact ne_arr F wi A
theorem own_stak {Z : State} {h h' : Heap} {C n d : String} {v : Value} {ws : List Addr} (F : Sta Z h C n d v) (K : Keep h h' ws) (q : ∀ x ∈ ws, ∀ cell : Cell, h[x]? = some cell → cell.vm.isStatics = false) : Sta Z h' C n d v := by
  obtain ⟨cf, i, k, f, st, cell, h1, h2, h3, h4, h5, h6, h7⟩ := F
  exact ⟨cf, i, k, f, st, cell, h1, h2, h3, h4, K.2.1 st cell h5 (fun z => by have r := q st z cell h5; rw [h6] at r; cases r), h6, h7⟩


theorem own_of (n : Nat) (h : n ≤ 4000) : (Int32.ofNat n).toInt = n := by
  have q : (Int32.ofNat n).toInt = (n : Int).bmod (2 ^ 32) := by simp [Int32.toInt_ofNat']
  rw [q, Int.bmod_def]; omega
theorem own_ix {ln : Int32} {cs : List Int32} {i : Nat} (hl : ln = Int32.ofNat cs.length ∧ cs.length ≤ 4000) (hi : i < cs.length) : ¬ Int32.ofNat i < (0 : Int32) ∧ Int32.ofNat i < ln := by
  have e1 := own_of i (by omega); have e2 := own_of cs.length hl.2
  rw [hl.1]
  constructor
  · rw [Int32.lt_iff_toInt_lt, e1, Int32.toInt_zero]; omega
  · rw [Int32.lt_iff_toInt_lt, e1, e2]; omega
theorem own_cl {n : Nat} (h : n ≤ 4000) : (Int32.ofNat n).toNatClampNeg = n := by
  show (Int32.ofNat n).toInt.toNat = n
  rw [own_of n h]; omega
theorem own_bat {ln : Int32} {cs : List Int32} {i : Nat} (hl : ln = Int32.ofNat cs.length ∧ cs.length ≤ 4000) (hi : i < cs.length) : ((cs.map fun c => c.toInt8.toInt32).map Value.int).getD (Int32.ofNat i).toNatClampNeg (.int 0) = .int (cs.getD i 0).toInt8.toInt32 := by
  rw [own_cl (by omega)]
  simp [List.getD_eq_getElem?_getD, hi]
theorem own_byte : ∀ k : Fin 256, nar .char ((((Int32.ofNat k.val).toInt8.toInt32) &&& (255 : Int32)).toUInt32.toUInt16.toUInt32.toInt32) = Int32.ofNat k.val ∧ nar .char (Int32.ofNat k.val) = Int32.ofNat k.val := by decide +kernel
theorem own_lat {c : Int32} (h : ¬ c < 0 ∧ ¬ (255 : Int32) < c) : ∃ k : Fin 256, c = Int32.ofNat k.val := by
  have e : (255 : Int32).toInt = 255 := by decide
  rw [Int32.lt_iff_toInt_lt, Int32.lt_iff_toInt_lt, e, Int32.toInt_zero] at h
  refine ⟨⟨c.toInt.toNat, by omega⟩, Int32.toInt_inj.mp ?_⟩
  rw [own_of _ (show c.toInt.toNat ≤ 4000 by omega)]; omega
theorem own_get {cs : List Int32} {i : Nat} (hcs : ∀ c ∈ cs, ¬ c < 0 ∧ ¬ (255 : Int32) < c) (hi : i < cs.length) : ∃ k : Fin 256, cs.getD i 0 = Int32.ofNat k.val := by
  apply own_lat; apply hcs
  rw [List.getD_eq_getElem?_getD, List.getElem?_eq_getElem hi]; exact List.getElem_mem hi
theorem own_b2c {cs : List Int32} {i : Nat} (hcs : ∀ c ∈ cs, ¬ c < 0 ∧ ¬ (255 : Int32) < c) (hi : i < cs.length) : nar .char ((((cs.getD i 0).toInt8.toInt32) &&& (255 : Int32)).toUInt32.toUInt16.toUInt32.toInt32) = cs.getD i 0 := by
  obtain ⟨k, e⟩ := own_get hcs hi; rw [e]; exact (own_byte k).1
theorem own_charnar {cs : List Int32} {i : Nat} (hcs : ∀ c ∈ cs, ¬ c < 0 ∧ ¬ (255 : Int32) < c) (hi : i < cs.length) : nar .char (cs.getD i 0) = cs.getD i 0 := by
  obtain ⟨k, e⟩ := own_get hcs hi; rw [e]; exact (own_byte k).2


theorem own_sh0 (x : Int32) : x >>> ((0 : Int32) &&& 31) = x := by
  apply Int32.toInt_inj.mp
  rw [Jvm.Kit.i32_shr x ((0 : Int32) &&& 31) (k := 0) (by decide)]; omega
theorem own_nlt {ln : Int32} {cs : List Int32} {i : Nat} (hl : ln = Int32.ofNat cs.length ∧ cs.length ≤ 4000) (hi : i + 0 = cs.length) : ¬ Int32.ofNat i < ln := by
  rw [hl.1, ← hi]; exact fun q => Int32.lt_irrefl q
theorem own_eqb {c d : Int32} (hc : ¬ c < 0 ∧ ¬ (255 : Int32) < c) (hd : ¬ d < 0 ∧ ¬ (255 : Int32) < d) (e : c.toInt8.toInt32 = d.toInt8.toInt32) : c = d := by
  obtain ⟨k, rfl⟩ := own_lat hc
  obtain ⟨j, rfl⟩ := own_lat hd
  have h1 := (own_byte k).1
  rw [e] at h1
  exact h1.symm.trans (own_byte j).1


theorem own_nc (x : Int32) : nar .char (x.toUInt32.toUInt16.toUInt32.toInt32) = x.toUInt32.toUInt16.toUInt32.toInt32 := by
  generalize x.toUInt32.toUInt16 = u
  show (u.toUInt32.toInt32).toUInt32.toUInt16.toUInt32.toInt32 = _
  simp
theorem own_nar1 (x : Int32) : x.toUInt32.toUInt16.toUInt32.toInt32 = nar .char (x.toUInt32.toUInt16.toUInt32.toInt32) := (own_nc x).symm

def own_t4 : String := match (tables_1[4]? : Option Jvm.Cond) with | some (Jvm.Cond.stringLink _ _ t) => t | _ => ""
def own_cs4 : List Int32 := own_t4.toList.map fun c => Int32.ofNat c.toNat
theorem own_ht4 : (∀ c ∈ own_t4.toList, c.toNat < 256) ∧ own_t4.toList.map (fun c => Value.int (Jvm.Lit.byteI c.toNat.toUInt16)) = (own_cs4.map fun c => c.toInt8.toInt32).map Value.int := ⟨by decide +kernel, by decide +kernel⟩
theorem own_len4 : own_cs4.length = 0 := by decide +kernel
theorem own_hbd4 : ∀ c ∈ own_cs4, ¬ c < 0 ∧ ¬ (65535 : Int32) < c := by decide +kernel
abbrev EL : List (String × Nat) := consts_1
theorem own_EW {Z : State} {a0 : Array Value} (hw : ∀ d ∈ tables_1, d.before a0 Z = true) : EW Z a0 EL := (EW.cons (wi hw 4 rfl) (by decide +kernel) EW.nil)
theorem own_mem4 : ("com/example/pourcode/pourcode/input/LineCounterCountPinLaw", 18) ∈ EL := List.mem_of_getElem? (i := 0) rfl

theorem d1_0 : decode kb13 0 = .ok (.iload_n 0, 1) := by decide +kernel
theorem d1_1 : decode kb13 1 = .ok (.bipush 16, 2) := by decide +kernel
theorem d1_3 : decode kb13 3 = .ok (.iushr, 1) := by decide +kernel
theorem d1_4 : decode kb13 4 = .ok (.iconst 3, 1) := by decide +kernel
theorem d1_5 : decode kb13 5 = .ok (.iand, 1) := by decide +kernel
theorem d1_6 : decode kb13 6 = .ok (.istore_n 1, 1) := by decide +kernel
theorem d1_7 : decode kb13 7 = .ok (.iload_n 1, 1) := by decide +kernel
theorem d1_8 : decode kb13 8 = .ok (.ifCond .ne 6, 3) := by decide +kernel
theorem d1_11 : decode kb13 11 = .ok (.bipush 13, 2) := by decide +kernel
theorem d1_13 : decode kb13 13 = .ok (.ireturn, 1) := by decide +kernel
theorem d1_14 : decode kb13 14 = .ok (.iload_n 1, 1) := by decide +kernel
theorem d1_15 : decode kb13 15 = .ok (.iconst 1, 1) := by decide +kernel
theorem d1_16 : decode kb13 16 = .ok (.if_icmp .ne 6, 3) := by decide +kernel
theorem d1_19 : decode kb13 19 = .ok (.bipush 10, 2) := by decide +kernel
theorem d1_21 : decode kb13 21 = .ok (.ireturn, 1) := by decide +kernel
theorem d1_22 : decode kb13 22 = .ok (.iload_n 0, 1) := by decide +kernel
theorem d1_23 : decode kb13 23 = .ok (.ldc 7, 2) := by decide +kernel
theorem d1_25 : decode kb13 25 = .ok (.iand, 1) := by decide +kernel
theorem d1_26 : decode kb13 26 = .ok (.i2c, 1) := by decide +kernel
theorem d1_27 : decode kb13 27 = .ok (.ireturn, 1) := by decide +kernel
def own_f1 (p1 : Int32) : Int32 := (if (((p1.toUInt32 >>> ((16 : Int32) &&& 31).toUInt32).toInt32) &&& (3 : Int32)) = (0 : Int32) then (13 : Int32) else (if (((p1.toUInt32 >>> ((16 : Int32) &&& 31).toUInt32).toInt32) &&& (3 : Int32)) = (1 : Int32) then (10 : Int32) else ((p1 &&& (65535 : Int32)).toUInt32.toUInt16.toUInt32.toInt32)))
def Q1 (p1 : Int32) (h0 : Heap) (n0 : Nat) (v : Option Value) (h : Heap) (L : List Loc) : Prop := v = some (.int (own_f1 p1)) ∧ Fr n0 L ∧ h = h0
theorem ef_1 (m : MethodId) (x0 : Int32) : entryFrame m #[(.int x0)] 2 = mkF m 0 #[.val (.int x0), un] [] := by first | (simp [entryFrame, mkF, argsToLocals, Value.category]; done) | rfl
theorem rm1 (l : Launch) (Z : State) (a0 : Array Value) (hw : ∀ d ∈ tables_1, d.before a0 Z = true) (ws : List Jvm.Cond) (p1 : Int32) (h0 : Heap) (n0 : Nat) :
    MetFree l mn9 (head1 (Jvm.Cond.code mn9 kb13 2 (some .char) :: ws) ro0) (fun a U => a = #[(.int p1)] ∧ Z.Warmed39 U.vm ∧ U.heap = h0) (fun _ _ _ _ _ => True) (fun _ U o U' => ∃ v L, o = .returned v ∧ Q1 p1 h0 n0 v U'.heap L ∧ FrameEnd U o U' L ro0.cells ro0.slots) := by
  refine MetFree.of_bodySF (plainFor_of_name pn_0) hisR ?_
  intro p e s m args below meth c s₁ Bd hml0 hP hK
  obtain ⟨rfl, hZ, hh⟩ := hP
  have hx := Bd.exec
  have hby := Bd.bytes
  have hml : c.maxLocals = 2 := hml0
  have hown : s.vm.findClass "com/example/pourcode/pourcode/input/LineCounterCountPinLaw" = some m.cls := findClass_of_methodNamed Bd.named
  have X0 : Stand p l e ro0 s m #[(.int p1)] below meth c s₁ [] 0 0 := Stand.of_body Bd
  have e0 : s₁.heap = h0 := by rw [← hh, Bd.state]; rfl
  have N0 := Fr.nil n0
  have pre0 : ∀ t, Steps p.tables e below (s₁.setTop (mkF m 0 #[.val (.int p1), un] [])) t → Steps p.tables e below (s₁.setTop (entryFrame m #[(.int p1)] 2)) t := fun t k => castTop (ef_1 m p1) k
  obtain ⟨fs, hr, hu, hd, hW, hme⟩ := X0.leave (v := some (.int (own_f1 p1))) (fun h => by rw [Bd.returns] at h; cases h)
  refine ⟨_, _, pre0 _ ?_, hu, hd, _, _, rfl, ?_, ⟨_, rfl⟩, hW, hme.mono (by decide) (by decide)⟩
  · skip
    have J0 : ∀ (hv : own_f1 p1 = own_f1 p1 ), Steps p.tables e below (s₁.setTop (mkF m 0 #[.val (.int p1), un] [])) (s₁.setFrames fs) := by
      intro hv
      show SQ p e below m s₁ 0 #[.val (.int p1), un] [] _
      refine XS.iloadN X0.here hx rfl (hb hby d1_0) rfl ?_
      show SQ p e below m s₁ 1 #[.val (.int p1), un] [(.int p1)] _
      refine XS.bipush X0.here hx rfl (hb hby d1_1) ?_
      show SQ p e below m s₁ 3 #[.val (.int p1), un] [(.int 16), (.int p1)] _
      refine XS.iushr X0.here hx rfl (hb hby d1_3) rfl ?_
      show SQ p e below m s₁ 4 #[.val (.int p1), un] [(.int ((p1.toUInt32 >>> ((16 : Int32) &&& 31).toUInt32).toInt32))] _
      refine XS.iconst X0.here hx rfl (hb hby d1_4) ?_
      show SQ p e below m s₁ 5 #[.val (.int p1), un] [(.int 3), (.int ((p1.toUInt32 >>> ((16 : Int32) &&& 31).toUInt32).toInt32))] _
      refine XS.iand X0.here hx rfl (hb hby d1_5) rfl ?_
      show SQ p e below m s₁ 6 #[.val (.int p1), un] [(.int (((p1.toUInt32 >>> ((16 : Int32) &&& 31).toUInt32).toInt32) &&& (3 : Int32)))] _
      refine XS.istoreN X0.here hx rfl (hb hby d1_6) rfl (l' := #[.val (.int p1), .val (.int (((p1.toUInt32 >>> ((16 : Int32) &&& 31).toUInt32).toInt32) &&& (3 : Int32)))]) rfl ?_
      show SQ p e below m s₁ 7 #[.val (.int p1), .val (.int (((p1.toUInt32 >>> ((16 : Int32) &&& 31).toUInt32).toInt32) &&& (3 : Int32)))] [] _
      refine XS.iloadN X0.here hx rfl (hb hby d1_7) rfl ?_
      show SQ p e below m s₁ 8 #[.val (.int p1), .val (.int (((p1.toUInt32 >>> ((16 : Int32) &&& 31).toUInt32).toInt32) &&& (3 : Int32)))] [(.int (((p1.toUInt32 >>> ((16 : Int32) &&& 31).toUInt32).toInt32) &&& (3 : Int32)))] _
      by_cases hc8 : (((p1.toUInt32 >>> ((16 : Int32) &&& 31).toUInt32).toInt32) &&& (3 : Int32)) = (0 : Int32)
      · replace hv := hv.trans (if_pos hc8)
        refine XS.ifNo X0.here hx rfl (hb hby d1_8) rfl ((if0 _ _).trans (teq hc8).2) ?_
        show SQ p e below m s₁ 11 #[.val (.int p1), .val (.int (((p1.toUInt32 >>> ((16 : Int32) &&& 31).toUInt32).toInt32) &&& (3 : Int32)))] [] _
        refine XS.bipush X0.here hx rfl (hb hby d1_11) ?_
        show SQ p e below m s₁ 13 #[.val (.int p1), .val (.int (((p1.toUInt32 >>> ((16 : Int32) &&& 31).toUInt32).toInt32) &&& (3 : Int32)))] [(.int 13)] _
        rw [hv] at hr
        exact retN X0 hx (t := .char) Bd.returns (by simp) (hb hby d1_13) hr
      · replace hv := hv.trans (if_neg hc8)
        refine XS.ifYes X0.here hx rfl (pc0 := 8) (pc' := 14) rfl (hb hby d1_8) rfl ((if0 _ _).trans (feq hc8).2) (by decide) (by decide) ?_
        show SQ p e below m s₁ 14 #[.val (.int p1), .val (.int (((p1.toUInt32 >>> ((16 : Int32) &&& 31).toUInt32).toInt32) &&& (3 : Int32)))] [] _
        refine XS.iloadN X0.here hx rfl (hb hby d1_14) rfl ?_
        show SQ p e below m s₁ 15 #[.val (.int p1), .val (.int (((p1.toUInt32 >>> ((16 : Int32) &&& 31).toUInt32).toInt32) &&& (3 : Int32)))] [(.int (((p1.toUInt32 >>> ((16 : Int32) &&& 31).toUInt32).toInt32) &&& (3 : Int32)))] _
        refine XS.iconst X0.here hx rfl (hb hby d1_15) ?_
        show SQ p e below m s₁ 16 #[.val (.int p1), .val (.int (((p1.toUInt32 >>> ((16 : Int32) &&& 31).toUInt32).toInt32) &&& (3 : Int32)))] [(.int 1), (.int (((p1.toUInt32 >>> ((16 : Int32) &&& 31).toUInt32).toInt32) &&& (3 : Int32)))] _
        by_cases hc16 : (((p1.toUInt32 >>> ((16 : Int32) &&& 31).toUInt32).toInt32) &&& (3 : Int32)) = (1 : Int32)
        · replace hv := hv.trans (if_pos hc16)
          refine XS.icmpNo X0.here hx rfl (hb hby d1_16) rfl (teq hc16).2 ?_
          show SQ p e below m s₁ 19 #[.val (.int p1), .val (.int (((p1.toUInt32 >>> ((16 : Int32) &&& 31).toUInt32).toInt32) &&& (3 : Int32)))] [] _
          refine XS.bipush X0.here hx rfl (hb hby d1_19) ?_
          show SQ p e below m s₁ 21 #[.val (.int p1), .val (.int (((p1.toUInt32 >>> ((16 : Int32) &&& 31).toUInt32).toInt32) &&& (3 : Int32)))] [(.int 10)] _
          rw [hv] at hr
          exact retN X0 hx (t := .char) Bd.returns (by simp) (hb hby d1_21) hr
        · replace hv := hv.trans (if_neg hc16)
          refine XS.icmpYes X0.here hx rfl (pc0 := 16) (pc' := 22) rfl (hb hby d1_16) rfl (feq hc16).2 (by decide) (by decide) ?_
          show SQ p e below m s₁ 22 #[.val (.int p1), .val (.int (((p1.toUInt32 >>> ((16 : Int32) &&& 31).toUInt32).toInt32) &&& (3 : Int32)))] [] _
          refine XS.iloadN X0.here hx rfl (hb hby d1_22) rfl ?_
          show SQ p e below m s₁ 23 #[.val (.int p1), .val (.int (((p1.toUInt32 >>> ((16 : Int32) &&& 31).toUInt32).toInt32) &&& (3 : Int32)))] [(.int p1)] _
          refine X0.ldcInt hx hown (mw hZ hw 13 rfl) (g := (mkF m 23 #[.val (.int p1), .val (.int (((p1.toUInt32 >>> ((16 : Int32) &&& 31).toUInt32).toInt32) &&& (3 : Int32)))] [(.int p1)])) rfl (hb hby d1_23) _ ?_
          show SQ p e below m s₁ 25 #[.val (.int p1), .val (.int (((p1.toUInt32 >>> ((16 : Int32) &&& 31).toUInt32).toInt32) &&& (3 : Int32)))] [(.int 65535), (.int p1)] _
          refine XS.iand X0.here hx rfl (hb hby d1_25) rfl ?_
          show SQ p e below m s₁ 26 #[.val (.int p1), .val (.int (((p1.toUInt32 >>> ((16 : Int32) &&& 31).toUInt32).toInt32) &&& (3 : Int32)))] [(.int (p1 &&& (65535 : Int32)))] _
          refine XS.i2c X0.here hx rfl (hb hby d1_26) rfl ?_
          show SQ p e below m s₁ 27 #[.val (.int p1), .val (.int (((p1.toUInt32 >>> ((16 : Int32) &&& 31).toUInt32).toInt32) &&& (3 : Int32)))] [(.int ((p1 &&& (65535 : Int32)).toUInt32.toUInt16.toUInt32.toInt32))] _
          have hv2 := hv.trans (own_nar1 _ : ((p1 &&& (65535 : Int32)).toUInt32.toUInt16.toUInt32.toInt32) = nar .char ((p1 &&& (65535 : Int32)).toUInt32.toUInt16.toUInt32.toInt32))
          rw [hv2] at hr
          exact retN X0 hx (t := .char) Bd.returns (by simp) (hb hby d1_27) hr
    exact J0 rfl
  · show Q1 p1 h0 n0 _ s₁.heap _
    rw [e0]
    exact ⟨rfl, N0, rfl⟩
theorem d13_0 : decode kb0 0 = .ok (.iload_n 0, 1) := by decide +kernel
theorem d13_1 : decode kb0 1 = .ok (.iconst 1, 1) := by decide +kernel
theorem d13_2 : decode kb0 2 = .ok (.iushr, 1) := by decide +kernel
theorem d13_3 : decode kb0 3 = .ok (.istore 5, 2) := by decide +kernel
theorem d13_5 : decode kb0 5 = .ok (.iload_n 0, 1) := by decide +kernel
theorem d13_6 : decode kb0 6 = .ok (.iconst 1, 1) := by decide +kernel
theorem d13_7 : decode kb0 7 = .ok (.iand, 1) := by decide +kernel
theorem d13_8 : decode kb0 8 = .ok (.ifCond .eq 7, 3) := by decide +kernel
theorem d13_11 : decode kb0 11 = .ok (.iconst 1, 1) := by decide +kernel
theorem d13_12 : decode kb0 12 = .ok (.goto 4, 3) := by decide +kernel
theorem d13_15 : decode kb0 15 = .ok (.iconst 0, 1) := by decide +kernel
theorem d13_16 : decode kb0 16 = .ok (.istore 6, 2) := by decide +kernel
theorem d13_18 : decode kb0 18 = .ok (.iload 4, 2) := by decide +kernel
theorem d13_20 : decode kb0 20 = .ok (.iconst 1, 1) := by decide +kernel
theorem d13_21 : decode kb0 21 = .ok (.if_icmp .lt 8, 3) := by decide +kernel
theorem d13_24 : decode kb0 24 = .ok (.iload_n 1, 1) := by decide +kernel
theorem d13_25 : decode kb0 25 = .ok (.iload_n 2, 1) := by decide +kernel
theorem d13_26 : decode kb0 26 = .ok (.if_icmp .eq 14, 3) := by decide +kernel
theorem d13_29 : decode kb0 29 = .ok (.iload 4, 2) := by decide +kernel
theorem d13_31 : decode kb0 31 = .ok (.iconst 2, 1) := by decide +kernel
theorem d13_32 : decode kb0 32 = .ok (.if_icmp .lt 12, 3) := by decide +kernel
theorem d13_35 : decode kb0 35 = .ok (.iload_n 1, 1) := by decide +kernel
theorem d13_36 : decode kb0 36 = .ok (.iload_n 3, 1) := by decide +kernel
theorem d13_37 : decode kb0 37 = .ok (.if_icmp .ne 7, 3) := by decide +kernel
theorem d13_40 : decode kb0 40 = .ok (.iconst 1, 1) := by decide +kernel
theorem d13_41 : decode kb0 41 = .ok (.goto 4, 3) := by decide +kernel
theorem d13_44 : decode kb0 44 = .ok (.iconst 0, 1) := by decide +kernel
theorem d13_45 : decode kb0 45 = .ok (.istore 7, 2) := by decide +kernel
theorem d13_47 : decode kb0 47 = .ok (.iload 7, 2) := by decide +kernel
theorem d13_49 : decode kb0 49 = .ok (.ifCond .eq 18, 3) := by decide +kernel
theorem d13_52 : decode kb0 52 = .ok (.iload_n 1, 1) := by decide +kernel
theorem d13_53 : decode kb0 53 = .ok (.bipush 10, 2) := by decide +kernel
theorem d13_55 : decode kb0 55 = .ok (.if_icmp .ne 8, 3) := by decide +kernel
theorem d13_58 : decode kb0 58 = .ok (.iload 6, 2) := by decide +kernel
theorem d13_60 : decode kb0 60 = .ok (.ifCond .ne 7, 3) := by decide +kernel
theorem d13_63 : decode kb0 63 = .ok (.iconst 1, 1) := by decide +kernel
theorem d13_64 : decode kb0 64 = .ok (.goto 4, 3) := by decide +kernel
theorem d13_67 : decode kb0 67 = .ok (.iconst 0, 1) := by decide +kernel
theorem d13_68 : decode kb0 68 = .ok (.istore 8, 2) := by decide +kernel
theorem d13_70 : decode kb0 70 = .ok (.iload 8, 2) := by decide +kernel
theorem d13_72 : decode kb0 72 = .ok (.ifCond .eq 10, 3) := by decide +kernel
theorem d13_75 : decode kb0 75 = .ok (.iload 5, 2) := by decide +kernel
theorem d13_77 : decode kb0 77 = .ok (.iconst 1, 1) := by decide +kernel
theorem d13_78 : decode kb0 78 = .ok (.iadd, 1) := by decide +kernel
theorem d13_79 : decode kb0 79 = .ok (.goto 5, 3) := by decide +kernel
theorem d13_82 : decode kb0 82 = .ok (.iload 5, 2) := by decide +kernel
theorem d13_84 : decode kb0 84 = .ok (.istore 9, 2) := by decide +kernel
theorem d13_86 : decode kb0 86 = .ok (.iload 8, 2) := by decide +kernel
theorem d13_88 : decode kb0 88 = .ok (.ifCond .eq 13, 3) := by decide +kernel
theorem d13_91 : decode kb0 91 = .ok (.iload_n 1, 1) := by decide +kernel
theorem d13_92 : decode kb0 92 = .ok (.bipush 13, 2) := by decide +kernel
theorem d13_94 : decode kb0 94 = .ok (.if_icmp .ne 7, 3) := by decide +kernel
theorem d13_97 : decode kb0 97 = .ok (.iconst 1, 1) := by decide +kernel
theorem d13_98 : decode kb0 98 = .ok (.goto 4, 3) := by decide +kernel
theorem d13_101 : decode kb0 101 = .ok (.iconst 0, 1) := by decide +kernel
theorem d13_102 : decode kb0 102 = .ok (.istore 10, 2) := by decide +kernel
theorem d13_104 : decode kb0 104 = .ok (.iload 9, 2) := by decide +kernel
theorem d13_106 : decode kb0 106 = .ok (.iconst 2, 1) := by decide +kernel
theorem d13_107 : decode kb0 107 = .ok (.imul, 1) := by decide +kernel
theorem d13_108 : decode kb0 108 = .ok (.iload 10, 2) := by decide +kernel
theorem d13_110 : decode kb0 110 = .ok (.iadd, 1) := by decide +kernel
theorem d13_111 : decode kb0 111 = .ok (.ireturn, 1) := by decide +kernel
def own_f13_102 (p1 p2 : Int32) (p3 p4 : Int32) (p5 l5 : Int32) (l6 l7 : Int32) (l8 l9 t0 : Int32) : Int32 := ((l9 * (2 : Int32)) + t0)
def own_f13_101 (p1 p2 : Int32) (p3 p4 : Int32) (p5 l5 : Int32) (l6 l7 : Int32) (l8 l9 : Int32) : Int32 := (own_f13_102 p1 p2 p3 p4 p5 l5 l6 l7 l8 l9 (0 : Int32))
def own_f13_84 (p1 p2 : Int32) (p3 p4 : Int32) (p5 l5 : Int32) (l6 l7 : Int32) (l8 t0 : Int32) : Int32 := (if l8 = (0 : Int32) then (own_f13_101 p1 p2 p3 p4 p5 l5 l6 l7 l8 t0) else (if p2 = (13 : Int32) then (own_f13_102 p1 p2 p3 p4 p5 l5 l6 l7 l8 t0 (1 : Int32)) else (own_f13_101 p1 p2 p3 p4 p5 l5 l6 l7 l8 t0)))
def own_f13_68 (p1 p2 : Int32) (p3 p4 : Int32) (p5 l5 : Int32) (l6 l7 t0 : Int32) : Int32 := (if t0 = (0 : Int32) then (own_f13_84 p1 p2 p3 p4 p5 l5 l6 l7 t0 l5) else (own_f13_84 p1 p2 p3 p4 p5 l5 l6 l7 t0 (l5 + (1 : Int32))))
def own_f13_67 (p1 p2 : Int32) (p3 p4 : Int32) (p5 l5 : Int32) (l6 l7 : Int32) : Int32 := (own_f13_68 p1 p2 p3 p4 p5 l5 l6 l7 (0 : Int32))
def own_f13_63 (p1 p2 : Int32) (p3 p4 : Int32) (p5 l5 : Int32) (l6 l7 : Int32) : Int32 := (own_f13_68 p1 p2 p3 p4 p5 l5 l6 l7 (1 : Int32))
def own_f13_45 (p1 p2 : Int32) (p3 p4 : Int32) (p5 l5 : Int32) (l6 t0 : Int32) : Int32 := (if t0 = (0 : Int32) then (own_f13_67 p1 p2 p3 p4 p5 l5 l6 t0) else (if p2 = (10 : Int32) then (if l6 = (0 : Int32) then (own_f13_63 p1 p2 p3 p4 p5 l5 l6 t0) else (own_f13_67 p1 p2 p3 p4 p5 l5 l6 t0)) else (own_f13_63 p1 p2 p3 p4 p5 l5 l6 t0)))
def own_f13_44 (p1 p2 : Int32) (p3 p4 : Int32) (p5 l5 l6 : Int32) : Int32 := (own_f13_45 p1 p2 p3 p4 p5 l5 l6 (0 : Int32))
def own_f13_40 (p1 p2 : Int32) (p3 p4 : Int32) (p5 l5 l6 : Int32) : Int32 := (own_f13_45 p1 p2 p3 p4 p5 l5 l6 (1 : Int32))
def own_f13_29 (p1 p2 : Int32) (p3 p4 : Int32) (p5 l5 l6 : Int32) : Int32 := (if p5 < (2 : Int32) then (own_f13_44 p1 p2 p3 p4 p5 l5 l6) else (if p2 = p4 then (own_f13_40 p1 p2 p3 p4 p5 l5 l6) else (own_f13_44 p1 p2 p3 p4 p5 l5 l6)))
def own_f13_16 (p1 p2 : Int32) (p3 p4 : Int32) (p5 l5 t0 : Int32) : Int32 := (if p5 < (1 : Int32) then (own_f13_29 p1 p2 p3 p4 p5 l5 t0) else (if p2 = p3 then (own_f13_40 p1 p2 p3 p4 p5 l5 t0) else (own_f13_29 p1 p2 p3 p4 p5 l5 t0)))
def own_f13 (p1 p2 : Int32) (p3 p4 p5 : Int32) : Int32 := (if (p1 &&& (1 : Int32)) = (0 : Int32) then (own_f13_16 p1 p2 p3 p4 p5 ((p1.toUInt32 >>> ((1 : Int32) &&& 31).toUInt32).toInt32) (0 : Int32)) else (own_f13_16 p1 p2 p3 p4 p5 ((p1.toUInt32 >>> ((1 : Int32) &&& 31).toUInt32).toInt32) (1 : Int32)))
def Q13 (p1 p2 : Int32) (p3 p4 p5 : Int32) (h0 : Heap) (n0 : Nat) (v : Option Value) (h : Heap) (L : List Loc) : Prop := v = some (.int (own_f13 p1 p2 p3 p4 p5)) ∧ Fr n0 L ∧ h = h0
theorem ef_13 (m : MethodId) (x0 x1 : Int32) (x2 x3 x4 : Int32) : entryFrame m #[(.int x0), (.int x1), (.int x2), (.int x3), (.int x4)] 11 = mkF m 0 #[.val (.int x0), .val (.int x1), .val (.int x2), .val (.int x3), .val (.int x4), un, un, un, un, un, un] [] := by first | (simp [entryFrame, mkF, argsToLocals, Value.category]; done) | rfl
theorem rm13 (l : Launch) (Z : State) (a0 : Array Value) (hw : ∀ d ∈ tables_1, d.before a0 Z = true) (ws : List Jvm.Cond) (p1 p2 : Int32) (p3 p4 p5 : Int32) (h0 : Heap) (n0 : Nat) :
    MetFree l mn4 (head1 (Jvm.Cond.code mn4 kb0 11 (some .int) :: ws) ro0) (fun a U => a = #[(.int p1), (.int p2), (.int p3), (.int p4), (.int p5)] ∧ Z.Warmed39 U.vm ∧ U.heap = h0) (fun _ _ _ _ _ => True) (fun _ U o U' => ∃ v L, o = .returned v ∧ Q13 p1 p2 p3 p4 p5 h0 n0 v U'.heap L ∧ FrameEnd U o U' L ro0.cells ro0.slots) := by
  refine MetFree.of_bodySF (plainFor_of_name pn_0) hisR ?_
  intro p e s m args below meth c s₁ Bd hml0 hP hK
  obtain ⟨rfl, hZ, hh⟩ := hP
  have hx := Bd.exec
  have hby := Bd.bytes
  have hml : c.maxLocals = 11 := hml0
  have hown : s.vm.findClass "com/example/pourcode/pourcode/input/LineCounterCountPinLaw" = some m.cls := findClass_of_methodNamed Bd.named
  have X0 : Stand p l e ro0 s m #[(.int p1), (.int p2), (.int p3), (.int p4), (.int p5)] below meth c s₁ [] 0 0 := Stand.of_body Bd
  have e0 : s₁.heap = h0 := by rw [← hh, Bd.state]; rfl
  have N0 := Fr.nil n0
  have pre0 : ∀ t, Steps p.tables e below (s₁.setTop (mkF m 0 #[.val (.int p1), .val (.int p2), .val (.int p3), .val (.int p4), .val (.int p5), un, un, un, un, un, un] [])) t → Steps p.tables e below (s₁.setTop (entryFrame m #[(.int p1), (.int p2), (.int p3), (.int p4), (.int p5)] 11)) t := fun t k => castTop (ef_13 m p1 p2 p3 p4 p5) k
  obtain ⟨fs, hr, hu, hd, hW, hme⟩ := X0.leave (v := some (.int (own_f13 p1 p2 p3 p4 p5))) (fun h => by rw [Bd.returns] at h; cases h)
  refine ⟨_, _, pre0 _ ?_, hu, hd, _, _, rfl, ?_, ⟨_, rfl⟩, hW, hme.mono (by decide) (by decide)⟩
  · skip
    have J102 : ∀ (l5 : Int32) (l6 : Int32) (l7 : Int32) (l8 : Int32) (l9 : Int32) (t0 : Int32) (hv : own_f13 p1 p2 p3 p4 p5 = own_f13_102 p1 p2 p3 p4 p5 l5 l6 l7 l8 l9 t0), Steps p.tables e below (s₁.setTop (mkF m 102 #[.val (.int p1), .val (.int p2), .val (.int p3), .val (.int p4), .val (.int p5), .val (.int l5), .val (.int l6), .val (.int l7), .val (.int l8), .val (.int l9), un] [(.int t0)])) (s₁.setFrames fs) := by
      intro l5 l6 l7 l8 l9 t0 hv
      show SQ p e below m s₁ 102 #[.val (.int p1), .val (.int p2), .val (.int p3), .val (.int p4), .val (.int p5), .val (.int l5), .val (.int l6), .val (.int l7), .val (.int l8), .val (.int l9), un] [(.int t0)] _
      refine XS.istore X0.here hx rfl (hb hby d13_102) rfl (l' := #[.val (.int p1), .val (.int p2), .val (.int p3), .val (.int p4), .val (.int p5), .val (.int l5), .val (.int l6), .val (.int l7), .val (.int l8), .val (.int l9), .val (.int t0)]) rfl ?_
      show SQ p e below m s₁ 104 #[.val (.int p1), .val (.int p2), .val (.int p3), .val (.int p4), .val (.int p5), .val (.int l5), .val (.int l6), .val (.int l7), .val (.int l8), .val (.int l9), .val (.int t0)] [] _
      refine XS.iload X0.here hx rfl (hb hby d13_104) rfl ?_
      show SQ p e below m s₁ 106 #[.val (.int p1), .val (.int p2), .val (.int p3), .val (.int p4), .val (.int p5), .val (.int l5), .val (.int l6), .val (.int l7), .val (.int l8), .val (.int l9), .val (.int t0)] [(.int l9)] _
      refine XS.iconst X0.here hx rfl (hb hby d13_106) ?_
      show SQ p e below m s₁ 107 #[.val (.int p1), .val (.int p2), .val (.int p3), .val (.int p4), .val (.int p5), .val (.int l5), .val (.int l6), .val (.int l7), .val (.int l8), .val (.int l9), .val (.int t0)] [(.int 2), (.int l9)] _
      refine XS.imul X0.here hx rfl (hb hby d13_107) rfl ?_
      show SQ p e below m s₁ 108 #[.val (.int p1), .val (.int p2), .val (.int p3), .val (.int p4), .val (.int p5), .val (.int l5), .val (.int l6), .val (.int l7), .val (.int l8), .val (.int l9), .val (.int t0)] [(.int (l9 * (2 : Int32)))] _
      refine XS.iload X0.here hx rfl (hb hby d13_108) rfl ?_
      show SQ p e below m s₁ 110 #[.val (.int p1), .val (.int p2), .val (.int p3), .val (.int p4), .val (.int p5), .val (.int l5), .val (.int l6), .val (.int l7), .val (.int l8), .val (.int l9), .val (.int t0)] [(.int t0), (.int (l9 * (2 : Int32)))] _
      refine XS.iadd X0.here hx rfl (hb hby d13_110) rfl ?_
      show SQ p e below m s₁ 111 #[.val (.int p1), .val (.int p2), .val (.int p3), .val (.int p4), .val (.int p5), .val (.int l5), .val (.int l6), .val (.int l7), .val (.int l8), .val (.int l9), .val (.int t0)] [(.int ((l9 * (2 : Int32)) + t0))] _
      rw [hv] at hr
      exact retI X0 hx Bd.returns (hb hby d13_111) hr
    have J101 : ∀ (l5 : Int32) (l6 : Int32) (l7 : Int32) (l8 : Int32) (l9 : Int32) (hv : own_f13 p1 p2 p3 p4 p5 = own_f13_101 p1 p2 p3 p4 p5 l5 l6 l7 l8 l9), Steps p.tables e below (s₁.setTop (mkF m 101 #[.val (.int p1), .val (.int p2), .val (.int p3), .val (.int p4), .val (.int p5), .val (.int l5), .val (.int l6), .val (.int l7), .val (.int l8), .val (.int l9), un] [])) (s₁.setFrames fs) := by
      intro l5 l6 l7 l8 l9 hv
      show SQ p e below m s₁ 101 #[.val (.int p1), .val (.int p2), .val (.int p3), .val (.int p4), .val (.int p5), .val (.int l5), .val (.int l6), .val (.int l7), .val (.int l8), .val (.int l9), un] [] _
      refine XS.iconst X0.here hx rfl (hb hby d13_101) ?_
      exact J102 l5 l6 l7 l8 l9 (0 : Int32) hv
    have J84 : ∀ (l5 : Int32) (l6 : Int32) (l7 : Int32) (l8 : Int32) (t0 : Int32) (hv : own_f13 p1 p2 p3 p4 p5 = own_f13_84 p1 p2 p3 p4 p5 l5 l6 l7 l8 t0), Steps p.tables e below (s₁.setTop (mkF m 84 #[.val (.int p1), .val (.int p2), .val (.int p3), .val (.int p4), .val (.int p5), .val (.int l5), .val (.int l6), .val (.int l7), .val (.int l8), un, un] [(.int t0)])) (s₁.setFrames fs) := by
      intro l5 l6 l7 l8 t0 hv
      show SQ p e below m s₁ 84 #[.val (.int p1), .val (.int p2), .val (.int p3), .val (.int p4), .val (.int p5), .val (.int l5), .val (.int l6), .val (.int l7), .val (.int l8), un, un] [(.int t0)] _
      refine XS.istore X0.here hx rfl (hb hby d13_84) rfl (l' := #[.val (.int p1), .val (.int p2), .val (.int p3), .val (.int p4), .val (.int p5), .val (.int l5), .val (.int l6), .val (.int l7), .val (.int l8), .val (.int t0), un]) rfl ?_
      show SQ p e below m s₁ 86 #[.val (.int p1), .val (.int p2), .val (.int p3), .val (.int p4), .val (.int p5), .val (.int l5), .val (.int l6), .val (.int l7), .val (.int l8), .val (.int t0), un] [] _
      refine XS.iload X0.here hx rfl (hb hby d13_86) rfl ?_
      show SQ p e below m s₁ 88 #[.val (.int p1), .val (.int p2), .val (.int p3), .val (.int p4), .val (.int p5), .val (.int l5), .val (.int l6), .val (.int l7), .val (.int l8), .val (.int t0), un] [(.int l8)] _
      by_cases hc88 : l8 = (0 : Int32)
      · replace hv := hv.trans (if_pos hc88)
        refine XS.ifYes X0.here hx rfl (pc0 := 88) (pc' := 101) rfl (hb hby d13_88) rfl ((if0 _ _).trans (teq hc88).1) (by decide) (by decide) ?_
        exact J101 l5 l6 l7 l8 t0 hv
      · replace hv := hv.trans (if_neg hc88)
        refine XS.ifNo X0.here hx rfl (hb hby d13_88) rfl ((if0 _ _).trans (feq hc88).1) ?_
        show SQ p e below m s₁ 91 #[.val (.int p1), .val (.int p2), .val (.int p3), .val (.int p4), .val (.int p5), .val (.int l5), .val (.int l6), .val (.int l7), .val (.int l8), .val (.int t0), un] [] _
        refine XS.iloadN X0.here hx rfl (hb hby d13_91) rfl ?_
        show SQ p e below m s₁ 92 #[.val (.int p1), .val (.int p2), .val (.int p3), .val (.int p4), .val (.int p5), .val (.int l5), .val (.int l6), .val (.int l7), .val (.int l8), .val (.int t0), un] [(.int p2)] _
        refine XS.bipush X0.here hx rfl (hb hby d13_92) ?_
        show SQ p e below m s₁ 94 #[.val (.int p1), .val (.int p2), .val (.int p3), .val (.int p4), .val (.int p5), .val (.int l5), .val (.int l6), .val (.int l7), .val (.int l8), .val (.int t0), un] [(.int 13), (.int p2)] _
        by_cases hc94 : p2 = (13 : Int32)
        · replace hv := hv.trans (if_pos hc94)
          refine XS.icmpNo X0.here hx rfl (hb hby d13_94) rfl (teq hc94).2 ?_
          show SQ p e below m s₁ 97 #[.val (.int p1), .val (.int p2), .val (.int p3), .val (.int p4), .val (.int p5), .val (.int l5), .val (.int l6), .val (.int l7), .val (.int l8), .val (.int t0), un] [] _
          refine XS.iconst X0.here hx rfl (hb hby d13_97) ?_
          show SQ p e below m s₁ 98 #[.val (.int p1), .val (.int p2), .val (.int p3), .val (.int p4), .val (.int p5), .val (.int l5), .val (.int l6), .val (.int l7), .val (.int l8), .val (.int t0), un] [(.int 1)] _
          refine XS.goto X0.here hx rfl (pc0 := 98) (pc' := 102) rfl (hb hby d13_98) (by decide) (by decide) ?_
          exact J102 l5 l6 l7 l8 t0 (1 : Int32) hv
        · replace hv := hv.trans (if_neg hc94)
          refine XS.icmpYes X0.here hx rfl (pc0 := 94) (pc' := 101) rfl (hb hby d13_94) rfl (feq hc94).2 (by decide) (by decide) ?_
          exact J101 l5 l6 l7 l8 t0 hv
    have J68 : ∀ (l5 : Int32) (l6 : Int32) (l7 : Int32) (t0 : Int32) (hv : own_f13 p1 p2 p3 p4 p5 = own_f13_68 p1 p2 p3 p4 p5 l5 l6 l7 t0), Steps p.tables e below (s₁.setTop (mkF m 68 #[.val (.int p1), .val (.int p2), .val (.int p3), .val (.int p4), .val (.int p5), .val (.int l5), .val (.int l6), .val (.int l7), un, un, un] [(.int t0)])) (s₁.setFrames fs) := by
      intro l5 l6 l7 t0 hv
      show SQ p e below m s₁ 68 #[.val (.int p1), .val (.int p2), .val (.int p3), .val (.int p4), .val (.int p5), .val (.int l5), .val (.int l6), .val (.int l7), un, un, un] [(.int t0)] _
      refine XS.istore X0.here hx rfl (hb hby d13_68) rfl (l' := #[.val (.int p1), .val (.int p2), .val (.int p3), .val (.int p4), .val (.int p5), .val (.int l5), .val (.int l6), .val (.int l7), .val (.int t0), un, un]) rfl ?_
      show SQ p e below m s₁ 70 #[.val (.int p1), .val (.int p2), .val (.int p3), .val (.int p4), .val (.int p5), .val (.int l5), .val (.int l6), .val (.int l7), .val (.int t0), un, un] [] _
      refine XS.iload X0.here hx rfl (hb hby d13_70) rfl ?_
      show SQ p e below m s₁ 72 #[.val (.int p1), .val (.int p2), .val (.int p3), .val (.int p4), .val (.int p5), .val (.int l5), .val (.int l6), .val (.int l7), .val (.int t0), un, un] [(.int t0)] _
      by_cases hc72 : t0 = (0 : Int32)
      · replace hv := hv.trans (if_pos hc72)
        refine XS.ifYes X0.here hx rfl (pc0 := 72) (pc' := 82) rfl (hb hby d13_72) rfl ((if0 _ _).trans (teq hc72).1) (by decide) (by decide) ?_
        show SQ p e below m s₁ 82 #[.val (.int p1), .val (.int p2), .val (.int p3), .val (.int p4), .val (.int p5), .val (.int l5), .val (.int l6), .val (.int l7), .val (.int t0), un, un] [] _
        refine XS.iload X0.here hx rfl (hb hby d13_82) rfl ?_
        exact J84 l5 l6 l7 t0 l5 hv
      · replace hv := hv.trans (if_neg hc72)
        refine XS.ifNo X0.here hx rfl (hb hby d13_72) rfl ((if0 _ _).trans (feq hc72).1) ?_
        show SQ p e below m s₁ 75 #[.val (.int p1), .val (.int p2), .val (.int p3), .val (.int p4), .val (.int p5), .val (.int l5), .val (.int l6), .val (.int l7), .val (.int t0), un, un] [] _
        refine XS.iload X0.here hx rfl (hb hby d13_75) rfl ?_
        show SQ p e below m s₁ 77 #[.val (.int p1), .val (.int p2), .val (.int p3), .val (.int p4), .val (.int p5), .val (.int l5), .val (.int l6), .val (.int l7), .val (.int t0), un, un] [(.int l5)] _
        refine XS.iconst X0.here hx rfl (hb hby d13_77) ?_
        show SQ p e below m s₁ 78 #[.val (.int p1), .val (.int p2), .val (.int p3), .val (.int p4), .val (.int p5), .val (.int l5), .val (.int l6), .val (.int l7), .val (.int t0), un, un] [(.int 1), (.int l5)] _
        refine XS.iadd X0.here hx rfl (hb hby d13_78) rfl ?_
        show SQ p e below m s₁ 79 #[.val (.int p1), .val (.int p2), .val (.int p3), .val (.int p4), .val (.int p5), .val (.int l5), .val (.int l6), .val (.int l7), .val (.int t0), un, un] [(.int (l5 + (1 : Int32)))] _
        refine XS.goto X0.here hx rfl (pc0 := 79) (pc' := 84) rfl (hb hby d13_79) (by decide) (by decide) ?_
        exact J84 l5 l6 l7 t0 (l5 + (1 : Int32)) hv
    have J67 : ∀ (l5 : Int32) (l6 : Int32) (l7 : Int32) (hv : own_f13 p1 p2 p3 p4 p5 = own_f13_67 p1 p2 p3 p4 p5 l5 l6 l7), Steps p.tables e below (s₁.setTop (mkF m 67 #[.val (.int p1), .val (.int p2), .val (.int p3), .val (.int p4), .val (.int p5), .val (.int l5), .val (.int l6), .val (.int l7), un, un, un] [])) (s₁.setFrames fs) := by
      intro l5 l6 l7 hv
      show SQ p e below m s₁ 67 #[.val (.int p1), .val (.int p2), .val (.int p3), .val (.int p4), .val (.int p5), .val (.int l5), .val (.int l6), .val (.int l7), un, un, un] [] _
      refine XS.iconst X0.here hx rfl (hb hby d13_67) ?_
      exact J68 l5 l6 l7 (0 : Int32) hv
    have J63 : ∀ (l5 : Int32) (l6 : Int32) (l7 : Int32) (hv : own_f13 p1 p2 p3 p4 p5 = own_f13_63 p1 p2 p3 p4 p5 l5 l6 l7), Steps p.tables e below (s₁.setTop (mkF m 63 #[.val (.int p1), .val (.int p2), .val (.int p3), .val (.int p4), .val (.int p5), .val (.int l5), .val (.int l6), .val (.int l7), un, un, un] [])) (s₁.setFrames fs) := by
      intro l5 l6 l7 hv
      show SQ p e below m s₁ 63 #[.val (.int p1), .val (.int p2), .val (.int p3), .val (.int p4), .val (.int p5), .val (.int l5), .val (.int l6), .val (.int l7), un, un, un] [] _
      refine XS.iconst X0.here hx rfl (hb hby d13_63) ?_
      show SQ p e below m s₁ 64 #[.val (.int p1), .val (.int p2), .val (.int p3), .val (.int p4), .val (.int p5), .val (.int l5), .val (.int l6), .val (.int l7), un, un, un] [(.int 1)] _
      refine XS.goto X0.here hx rfl (pc0 := 64) (pc' := 68) rfl (hb hby d13_64) (by decide) (by decide) ?_
      exact J68 l5 l6 l7 (1 : Int32) hv
    have J45 : ∀ (l5 : Int32) (l6 : Int32) (t0 : Int32) (hv : own_f13 p1 p2 p3 p4 p5 = own_f13_45 p1 p2 p3 p4 p5 l5 l6 t0), Steps p.tables e below (s₁.setTop (mkF m 45 #[.val (.int p1), .val (.int p2), .val (.int p3), .val (.int p4), .val (.int p5), .val (.int l5), .val (.int l6), un, un, un, un] [(.int t0)])) (s₁.setFrames fs) := by
      intro l5 l6 t0 hv
      show SQ p e below m s₁ 45 #[.val (.int p1), .val (.int p2), .val (.int p3), .val (.int p4), .val (.int p5), .val (.int l5), .val (.int l6), un, un, un, un] [(.int t0)] _
      refine XS.istore X0.here hx rfl (hb hby d13_45) rfl (l' := #[.val (.int p1), .val (.int p2), .val (.int p3), .val (.int p4), .val (.int p5), .val (.int l5), .val (.int l6), .val (.int t0), un, un, un]) rfl ?_
      show SQ p e below m s₁ 47 #[.val (.int p1), .val (.int p2), .val (.int p3), .val (.int p4), .val (.int p5), .val (.int l5), .val (.int l6), .val (.int t0), un, un, un] [] _
      refine XS.iload X0.here hx rfl (hb hby d13_47) rfl ?_
      show SQ p e below m s₁ 49 #[.val (.int p1), .val (.int p2), .val (.int p3), .val (.int p4), .val (.int p5), .val (.int l5), .val (.int l6), .val (.int t0), un, un, un] [(.int t0)] _
      by_cases hc49 : t0 = (0 : Int32)
      · replace hv := hv.trans (if_pos hc49)
        refine XS.ifYes X0.here hx rfl (pc0 := 49) (pc' := 67) rfl (hb hby d13_49) rfl ((if0 _ _).trans (teq hc49).1) (by decide) (by decide) ?_
        exact J67 l5 l6 t0 hv
      · replace hv := hv.trans (if_neg hc49)
        refine XS.ifNo X0.here hx rfl (hb hby d13_49) rfl ((if0 _ _).trans (feq hc49).1) ?_
        show SQ p e below m s₁ 52 #[.val (.int p1), .val (.int p2), .val (.int p3), .val (.int p4), .val (.int p5), .val (.int l5), .val (.int l6), .val (.int t0), un, un, un] [] _
        refine XS.iloadN X0.here hx rfl (hb hby d13_52) rfl ?_
        show SQ p e below m s₁ 53 #[.val (.int p1), .val (.int p2), .val (.int p3), .val (.int p4), .val (.int p5), .val (.int l5), .val (.int l6), .val (.int t0), un, un, un] [(.int p2)] _
        refine XS.bipush X0.here hx rfl (hb hby d13_53) ?_
        show SQ p e below m s₁ 55 #[.val (.int p1), .val (.int p2), .val (.int p3), .val (.int p4), .val (.int p5), .val (.int l5), .val (.int l6), .val (.int t0), un, un, un] [(.int 10), (.int p2)] _
        by_cases hc55 : p2 = (10 : Int32)
        · replace hv := hv.trans (if_pos hc55)
          refine XS.icmpNo X0.here hx rfl (hb hby d13_55) rfl (teq hc55).2 ?_
          show SQ p e below m s₁ 58 #[.val (.int p1), .val (.int p2), .val (.int p3), .val (.int p4), .val (.int p5), .val (.int l5), .val (.int l6), .val (.int t0), un, un, un] [] _
          refine XS.iload X0.here hx rfl (hb hby d13_58) rfl ?_
          show SQ p e below m s₁ 60 #[.val (.int p1), .val (.int p2), .val (.int p3), .val (.int p4), .val (.int p5), .val (.int l5), .val (.int l6), .val (.int t0), un, un, un] [(.int l6)] _
          by_cases hc60 : l6 = (0 : Int32)
          · replace hv := hv.trans (if_pos hc60)
            refine XS.ifNo X0.here hx rfl (hb hby d13_60) rfl ((if0 _ _).trans (teq hc60).2) ?_
            exact J63 l5 l6 t0 hv
          · replace hv := hv.trans (if_neg hc60)
            refine XS.ifYes X0.here hx rfl (pc0 := 60) (pc' := 67) rfl (hb hby d13_60) rfl ((if0 _ _).trans (feq hc60).2) (by decide) (by decide) ?_
            exact J67 l5 l6 t0 hv
        · replace hv := hv.trans (if_neg hc55)
          refine XS.icmpYes X0.here hx rfl (pc0 := 55) (pc' := 63) rfl (hb hby d13_55) rfl (feq hc55).2 (by decide) (by decide) ?_
          exact J63 l5 l6 t0 hv
    have J44 : ∀ (l5 : Int32) (l6 : Int32) (hv : own_f13 p1 p2 p3 p4 p5 = own_f13_44 p1 p2 p3 p4 p5 l5 l6), Steps p.tables e below (s₁.setTop (mkF m 44 #[.val (.int p1), .val (.int p2), .val (.int p3), .val (.int p4), .val (.int p5), .val (.int l5), .val (.int l6), un, un, un, un] [])) (s₁.setFrames fs) := by
      intro l5 l6 hv
      show SQ p e below m s₁ 44 #[.val (.int p1), .val (.int p2), .val (.int p3), .val (.int p4), .val (.int p5), .val (.int l5), .val (.int l6), un, un, un, un] [] _
      refine XS.iconst X0.here hx rfl (hb hby d13_44) ?_
      exact J45 l5 l6 (0 : Int32) hv
    have J40 : ∀ (l5 : Int32) (l6 : Int32) (hv : own_f13 p1 p2 p3 p4 p5 = own_f13_40 p1 p2 p3 p4 p5 l5 l6), Steps p.tables e below (s₁.setTop (mkF m 40 #[.val (.int p1), .val (.int p2), .val (.int p3), .val (.int p4), .val (.int p5), .val (.int l5), .val (.int l6), un, un, un, un] [])) (s₁.setFrames fs) := by
      intro l5 l6 hv
      show SQ p e below m s₁ 40 #[.val (.int p1), .val (.int p2), .val (.int p3), .val (.int p4), .val (.int p5), .val (.int l5), .val (.int l6), un, un, un, un] [] _
      refine XS.iconst X0.here hx rfl (hb hby d13_40) ?_
      show SQ p e below m s₁ 41 #[.val (.int p1), .val (.int p2), .val (.int p3), .val (.int p4), .val (.int p5), .val (.int l5), .val (.int l6), un, un, un, un] [(.int 1)] _
      refine XS.goto X0.here hx rfl (pc0 := 41) (pc' := 45) rfl (hb hby d13_41) (by decide) (by decide) ?_
      exact J45 l5 l6 (1 : Int32) hv
    have J29 : ∀ (l5 : Int32) (l6 : Int32) (hv : own_f13 p1 p2 p3 p4 p5 = own_f13_29 p1 p2 p3 p4 p5 l5 l6), Steps p.tables e below (s₁.setTop (mkF m 29 #[.val (.int p1), .val (.int p2), .val (.int p3), .val (.int p4), .val (.int p5), .val (.int l5), .val (.int l6), un, un, un, un] [])) (s₁.setFrames fs) := by
      intro l5 l6 hv
      show SQ p e below m s₁ 29 #[.val (.int p1), .val (.int p2), .val (.int p3), .val (.int p4), .val (.int p5), .val (.int l5), .val (.int l6), un, un, un, un] [] _
      refine XS.iload X0.here hx rfl (hb hby d13_29) rfl ?_
      show SQ p e below m s₁ 31 #[.val (.int p1), .val (.int p2), .val (.int p3), .val (.int p4), .val (.int p5), .val (.int l5), .val (.int l6), un, un, un, un] [(.int p5)] _
      refine XS.iconst X0.here hx rfl (hb hby d13_31) ?_
      show SQ p e below m s₁ 32 #[.val (.int p1), .val (.int p2), .val (.int p3), .val (.int p4), .val (.int p5), .val (.int l5), .val (.int l6), un, un, un, un] [(.int 2), (.int p5)] _
      by_cases hc32 : p5 < (2 : Int32)
      · replace hv := hv.trans (if_pos hc32)
        refine XS.icmpYes X0.here hx rfl (pc0 := 32) (pc' := 44) rfl (hb hby d13_32) rfl (tlt hc32).1 (by decide) (by decide) ?_
        exact J44 l5 l6 hv
      · replace hv := hv.trans (if_neg hc32)
        refine XS.icmpNo X0.here hx rfl (hb hby d13_32) rfl (flt hc32).1 ?_
        show SQ p e below m s₁ 35 #[.val (.int p1), .val (.int p2), .val (.int p3), .val (.int p4), .val (.int p5), .val (.int l5), .val (.int l6), un, un, un, un] [] _
        refine XS.iloadN X0.here hx rfl (hb hby d13_35) rfl ?_
        show SQ p e below m s₁ 36 #[.val (.int p1), .val (.int p2), .val (.int p3), .val (.int p4), .val (.int p5), .val (.int l5), .val (.int l6), un, un, un, un] [(.int p2)] _
        refine XS.iloadN X0.here hx rfl (hb hby d13_36) rfl ?_
        show SQ p e below m s₁ 37 #[.val (.int p1), .val (.int p2), .val (.int p3), .val (.int p4), .val (.int p5), .val (.int l5), .val (.int l6), un, un, un, un] [(.int p4), (.int p2)] _
        by_cases hc37 : p2 = p4
        · replace hv := hv.trans (if_pos hc37)
          refine XS.icmpNo X0.here hx rfl (hb hby d13_37) rfl (teq hc37).2 ?_
          exact J40 l5 l6 hv
        · replace hv := hv.trans (if_neg hc37)
          refine XS.icmpYes X0.here hx rfl (pc0 := 37) (pc' := 44) rfl (hb hby d13_37) rfl (feq hc37).2 (by decide) (by decide) ?_
          exact J44 l5 l6 hv
    have J16 : ∀ (l5 : Int32) (t0 : Int32) (hv : own_f13 p1 p2 p3 p4 p5 = own_f13_16 p1 p2 p3 p4 p5 l5 t0), Steps p.tables e below (s₁.setTop (mkF m 16 #[.val (.int p1), .val (.int p2), .val (.int p3), .val (.int p4), .val (.int p5), .val (.int l5), un, un, un, un, un] [(.int t0)])) (s₁.setFrames fs) := by
      intro l5 t0 hv
      show SQ p e below m s₁ 16 #[.val (.int p1), .val (.int p2), .val (.int p3), .val (.int p4), .val (.int p5), .val (.int l5), un, un, un, un, un] [(.int t0)] _
      refine XS.istore X0.here hx rfl (hb hby d13_16) rfl (l' := #[.val (.int p1), .val (.int p2), .val (.int p3), .val (.int p4), .val (.int p5), .val (.int l5), .val (.int t0), un, un, un, un]) rfl ?_
      show SQ p e below m s₁ 18 #[.val (.int p1), .val (.int p2), .val (.int p3), .val (.int p4), .val (.int p5), .val (.int l5), .val (.int t0), un, un, un, un] [] _
      refine XS.iload X0.here hx rfl (hb hby d13_18) rfl ?_
      show SQ p e below m s₁ 20 #[.val (.int p1), .val (.int p2), .val (.int p3), .val (.int p4), .val (.int p5), .val (.int l5), .val (.int t0), un, un, un, un] [(.int p5)] _
      refine XS.iconst X0.here hx rfl (hb hby d13_20) ?_
      show SQ p e below m s₁ 21 #[.val (.int p1), .val (.int p2), .val (.int p3), .val (.int p4), .val (.int p5), .val (.int l5), .val (.int t0), un, un, un, un] [(.int 1), (.int p5)] _
      by_cases hc21 : p5 < (1 : Int32)
      · replace hv := hv.trans (if_pos hc21)
        refine XS.icmpYes X0.here hx rfl (pc0 := 21) (pc' := 29) rfl (hb hby d13_21) rfl (tlt hc21).1 (by decide) (by decide) ?_
        exact J29 l5 t0 hv
      · replace hv := hv.trans (if_neg hc21)
        refine XS.icmpNo X0.here hx rfl (hb hby d13_21) rfl (flt hc21).1 ?_
        show SQ p e below m s₁ 24 #[.val (.int p1), .val (.int p2), .val (.int p3), .val (.int p4), .val (.int p5), .val (.int l5), .val (.int t0), un, un, un, un] [] _
        refine XS.iloadN X0.here hx rfl (hb hby d13_24) rfl ?_
        show SQ p e below m s₁ 25 #[.val (.int p1), .val (.int p2), .val (.int p3), .val (.int p4), .val (.int p5), .val (.int l5), .val (.int t0), un, un, un, un] [(.int p2)] _
        refine XS.iloadN X0.here hx rfl (hb hby d13_25) rfl ?_
        show SQ p e below m s₁ 26 #[.val (.int p1), .val (.int p2), .val (.int p3), .val (.int p4), .val (.int p5), .val (.int l5), .val (.int t0), un, un, un, un] [(.int p3), (.int p2)] _
        by_cases hc26 : p2 = p3
        · replace hv := hv.trans (if_pos hc26)
          refine XS.icmpYes X0.here hx rfl (pc0 := 26) (pc' := 40) rfl (hb hby d13_26) rfl (teq hc26).1 (by decide) (by decide) ?_
          exact J40 l5 t0 hv
        · replace hv := hv.trans (if_neg hc26)
          refine XS.icmpNo X0.here hx rfl (hb hby d13_26) rfl (feq hc26).1 ?_
          exact J29 l5 t0 hv
    have J0 : ∀ (hv : own_f13 p1 p2 p3 p4 p5 = own_f13 p1 p2 p3 p4 p5 ), Steps p.tables e below (s₁.setTop (mkF m 0 #[.val (.int p1), .val (.int p2), .val (.int p3), .val (.int p4), .val (.int p5), un, un, un, un, un, un] [])) (s₁.setFrames fs) := by
      intro hv
      show SQ p e below m s₁ 0 #[.val (.int p1), .val (.int p2), .val (.int p3), .val (.int p4), .val (.int p5), un, un, un, un, un, un] [] _
      refine XS.iloadN X0.here hx rfl (hb hby d13_0) rfl ?_
      show SQ p e below m s₁ 1 #[.val (.int p1), .val (.int p2), .val (.int p3), .val (.int p4), .val (.int p5), un, un, un, un, un, un] [(.int p1)] _
      refine XS.iconst X0.here hx rfl (hb hby d13_1) ?_
      show SQ p e below m s₁ 2 #[.val (.int p1), .val (.int p2), .val (.int p3), .val (.int p4), .val (.int p5), un, un, un, un, un, un] [(.int 1), (.int p1)] _
      refine XS.iushr X0.here hx rfl (hb hby d13_2) rfl ?_
      show SQ p e below m s₁ 3 #[.val (.int p1), .val (.int p2), .val (.int p3), .val (.int p4), .val (.int p5), un, un, un, un, un, un] [(.int ((p1.toUInt32 >>> ((1 : Int32) &&& 31).toUInt32).toInt32))] _
      refine XS.istore X0.here hx rfl (hb hby d13_3) rfl (l' := #[.val (.int p1), .val (.int p2), .val (.int p3), .val (.int p4), .val (.int p5), .val (.int ((p1.toUInt32 >>> ((1 : Int32) &&& 31).toUInt32).toInt32)), un, un, un, un, un]) rfl ?_
      show SQ p e below m s₁ 5 #[.val (.int p1), .val (.int p2), .val (.int p3), .val (.int p4), .val (.int p5), .val (.int ((p1.toUInt32 >>> ((1 : Int32) &&& 31).toUInt32).toInt32)), un, un, un, un, un] [] _
      refine XS.iloadN X0.here hx rfl (hb hby d13_5) rfl ?_
      show SQ p e below m s₁ 6 #[.val (.int p1), .val (.int p2), .val (.int p3), .val (.int p4), .val (.int p5), .val (.int ((p1.toUInt32 >>> ((1 : Int32) &&& 31).toUInt32).toInt32)), un, un, un, un, un] [(.int p1)] _
      refine XS.iconst X0.here hx rfl (hb hby d13_6) ?_
      show SQ p e below m s₁ 7 #[.val (.int p1), .val (.int p2), .val (.int p3), .val (.int p4), .val (.int p5), .val (.int ((p1.toUInt32 >>> ((1 : Int32) &&& 31).toUInt32).toInt32)), un, un, un, un, un] [(.int 1), (.int p1)] _
      refine XS.iand X0.here hx rfl (hb hby d13_7) rfl ?_
      show SQ p e below m s₁ 8 #[.val (.int p1), .val (.int p2), .val (.int p3), .val (.int p4), .val (.int p5), .val (.int ((p1.toUInt32 >>> ((1 : Int32) &&& 31).toUInt32).toInt32)), un, un, un, un, un] [(.int (p1 &&& (1 : Int32)))] _
      by_cases hc8 : (p1 &&& (1 : Int32)) = (0 : Int32)
      · replace hv := hv.trans (if_pos hc8)
        refine XS.ifYes X0.here hx rfl (pc0 := 8) (pc' := 15) rfl (hb hby d13_8) rfl ((if0 _ _).trans (teq hc8).1) (by decide) (by decide) ?_
        show SQ p e below m s₁ 15 #[.val (.int p1), .val (.int p2), .val (.int p3), .val (.int p4), .val (.int p5), .val (.int ((p1.toUInt32 >>> ((1 : Int32) &&& 31).toUInt32).toInt32)), un, un, un, un, un] [] _
        refine XS.iconst X0.here hx rfl (hb hby d13_15) ?_
        exact J16 ((p1.toUInt32 >>> ((1 : Int32) &&& 31).toUInt32).toInt32) (0 : Int32) hv
      · replace hv := hv.trans (if_neg hc8)
        refine XS.ifNo X0.here hx rfl (hb hby d13_8) rfl ((if0 _ _).trans (feq hc8).1) ?_
        show SQ p e below m s₁ 11 #[.val (.int p1), .val (.int p2), .val (.int p3), .val (.int p4), .val (.int p5), .val (.int ((p1.toUInt32 >>> ((1 : Int32) &&& 31).toUInt32).toInt32)), un, un, un, un, un] [] _
        refine XS.iconst X0.here hx rfl (hb hby d13_11) ?_
        show SQ p e below m s₁ 12 #[.val (.int p1), .val (.int p2), .val (.int p3), .val (.int p4), .val (.int p5), .val (.int ((p1.toUInt32 >>> ((1 : Int32) &&& 31).toUInt32).toInt32)), un, un, un, un, un] [(.int 1)] _
        refine XS.goto X0.here hx rfl (pc0 := 12) (pc' := 16) rfl (hb hby d13_12) (by decide) (by decide) ?_
        exact J16 ((p1.toUInt32 >>> ((1 : Int32) &&& 31).toUInt32).toInt32) (1 : Int32) hv
    exact J0 rfl
  · show Q13 p1 p2 p3 p4 p5 h0 n0 _ s₁.heap _
    rw [e0]
    exact ⟨rfl, N0, rfl⟩
theorem d19_0 : decode kb34 0 = .ok (.iload_n 0, 1) := by decide +kernel
theorem d19_1 : decode kb34 1 = .ok (.iload_n 1, 1) := by decide +kernel
theorem d19_2 : decode kb34 2 = .ok (.if_icmp .lt 7, 3) := by decide +kernel
theorem d19_5 : decode kb34 5 = .ok (.iload_n 0, 1) := by decide +kernel
theorem d19_6 : decode kb34 6 = .ok (.goto 4, 3) := by decide +kernel
theorem d19_9 : decode kb34 9 = .ok (.iload_n 1, 1) := by decide +kernel
theorem d19_10 : decode kb34 10 = .ok (.ireturn, 1) := by decide +kernel
def own_f19 (p1 p2 : Int32) : Int32 := (if p1 < p2 then p2 else p1)
def Q19 (p1 p2 : Int32) (h0 : Heap) (n0 : Nat) (v : Option Value) (h : Heap) (L : List Loc) : Prop := v = some (.int (own_f19 p1 p2)) ∧ Fr n0 L ∧ h = h0
theorem ef_19 (m : MethodId) (x0 x1 : Int32) : entryFrame m #[(.int x0), (.int x1)] 2 = mkF m 0 #[.val (.int x0), .val (.int x1)] [] := by first | (simp [entryFrame, mkF, argsToLocals, Value.category]; done) | rfl
theorem rm19 (l : Launch) (Z : State) (a0 : Array Value) (hw : ∀ d ∈ tables_1, d.before a0 Z = true) (ws : List Jvm.Cond) (p1 p2 : Int32) (h0 : Heap) (n0 : Nat) :
    MetFree l mn8 (head1 (Jvm.Cond.code mn8 kb34 2 (some .int) :: ws) ro0) (fun a U => a = #[(.int p1), (.int p2)] ∧ Z.Warmed39 U.vm ∧ U.heap = h0) (fun _ _ _ _ _ => True) (fun _ U o U' => ∃ v L, o = .returned v ∧ Q19 p1 p2 h0 n0 v U'.heap L ∧ FrameEnd U o U' L ro0.cells ro0.slots) := by
  refine MetFree.of_bodySF (Jvm.Free.JP.mathPlain rfl (by decide +kernel)) hisR ?_
  intro p e s m args below meth c s₁ Bd hml0 hP hK
  obtain ⟨rfl, hZ, hh⟩ := hP
  have hx := Bd.exec
  have hby := Bd.bytes
  have hml : c.maxLocals = 2 := hml0
  have hown : s.vm.findClass "java/lang/Math" = some m.cls := findClass_of_methodNamed Bd.named
  have X0 : Stand p l e ro0 s m #[(.int p1), (.int p2)] below meth c s₁ [] 0 0 := Stand.of_body Bd
  have e0 : s₁.heap = h0 := by rw [← hh, Bd.state]; rfl
  have N0 := Fr.nil n0
  have pre0 : ∀ t, Steps p.tables e below (s₁.setTop (mkF m 0 #[.val (.int p1), .val (.int p2)] [])) t → Steps p.tables e below (s₁.setTop (entryFrame m #[(.int p1), (.int p2)] 2)) t := fun t k => castTop (ef_19 m p1 p2) k
  obtain ⟨fs, hr, hu, hd, hW, hme⟩ := X0.leave (v := some (.int (own_f19 p1 p2))) (fun h => by rw [Bd.returns] at h; cases h)
  refine ⟨_, _, pre0 _ ?_, hu, hd, _, _, rfl, ?_, ⟨_, rfl⟩, hW, hme.mono (by decide) (by decide)⟩
  · skip
    have J0 : ∀ (hv : own_f19 p1 p2 = own_f19 p1 p2 ), Steps p.tables e below (s₁.setTop (mkF m 0 #[.val (.int p1), .val (.int p2)] [])) (s₁.setFrames fs) := by
      intro hv
      show SQ p e below m s₁ 0 #[.val (.int p1), .val (.int p2)] [] _
      refine XS.iloadN X0.here hx rfl (hb hby d19_0) rfl ?_
      show SQ p e below m s₁ 1 #[.val (.int p1), .val (.int p2)] [(.int p1)] _
      refine XS.iloadN X0.here hx rfl (hb hby d19_1) rfl ?_
      show SQ p e below m s₁ 2 #[.val (.int p1), .val (.int p2)] [(.int p2), (.int p1)] _
      by_cases hc2 : p1 < p2
      · replace hv := hv.trans (if_pos hc2)
        refine XS.icmpYes X0.here hx rfl (pc0 := 2) (pc' := 9) rfl (hb hby d19_2) rfl (tlt hc2).1 (by decide) (by decide) ?_
        show SQ p e below m s₁ 9 #[.val (.int p1), .val (.int p2)] [] _
        refine XS.iloadN X0.here hx rfl (hb hby d19_9) rfl ?_
        show SQ p e below m s₁ 10 #[.val (.int p1), .val (.int p2)] [(.int p2)] _
        rw [hv] at hr
        exact retI X0 hx Bd.returns (hb hby d19_10) hr
      · replace hv := hv.trans (if_neg hc2)
        refine XS.icmpNo X0.here hx rfl (hb hby d19_2) rfl (flt hc2).1 ?_
        show SQ p e below m s₁ 5 #[.val (.int p1), .val (.int p2)] [] _
        refine XS.iloadN X0.here hx rfl (hb hby d19_5) rfl ?_
        show SQ p e below m s₁ 6 #[.val (.int p1), .val (.int p2)] [(.int p1)] _
        refine XS.goto X0.here hx rfl (pc0 := 6) (pc' := 10) rfl (hb hby d19_6) (by decide) (by decide) ?_
        show SQ p e below m s₁ 10 #[.val (.int p1), .val (.int p2)] [(.int p1)] _
        rw [hv] at hr
        exact retI X0 hx Bd.returns (hb hby d19_10) hr
    exact J0 rfl
  · show Q19 p1 p2 h0 n0 _ s₁.heap _
    rw [e0]
    exact ⟨rfl, N0, rfl⟩
theorem d37_0 : decode kb35 0 = .ok (.iload_n 0, 1) := by decide +kernel
theorem d37_1 : decode kb35 1 = .ok (.iload_n 1, 1) := by decide +kernel
theorem d37_2 : decode kb35 2 = .ok (.if_icmp .gt 7, 3) := by decide +kernel
theorem d37_5 : decode kb35 5 = .ok (.iload_n 0, 1) := by decide +kernel
theorem d37_6 : decode kb35 6 = .ok (.goto 4, 3) := by decide +kernel
theorem d37_9 : decode kb35 9 = .ok (.iload_n 1, 1) := by decide +kernel
theorem d37_10 : decode kb35 10 = .ok (.ireturn, 1) := by decide +kernel
def own_f37 (p1 p2 : Int32) : Int32 := (if p2 < p1 then p2 else p1)
def Q37 (p1 p2 : Int32) (h0 : Heap) (n0 : Nat) (v : Option Value) (h : Heap) (L : List Loc) : Prop := v = some (.int (own_f37 p1 p2)) ∧ Fr n0 L ∧ h = h0
theorem ef_37 (m : MethodId) (x0 x1 : Int32) : entryFrame m #[(.int x0), (.int x1)] 2 = mkF m 0 #[.val (.int x0), .val (.int x1)] [] := by first | (simp [entryFrame, mkF, argsToLocals, Value.category]; done) | rfl
theorem rm37 (l : Launch) (Z : State) (a0 : Array Value) (hw : ∀ d ∈ tables_1, d.before a0 Z = true) (ws : List Jvm.Cond) (p1 p2 : Int32) (h0 : Heap) (n0 : Nat) :
    MetFree l mn11 (head1 (Jvm.Cond.code mn11 kb35 2 (some .int) :: ws) ro0) (fun a U => a = #[(.int p1), (.int p2)] ∧ Z.Warmed39 U.vm ∧ U.heap = h0) (fun _ _ _ _ _ => True) (fun _ U o U' => ∃ v L, o = .returned v ∧ Q37 p1 p2 h0 n0 v U'.heap L ∧ FrameEnd U o U' L ro0.cells ro0.slots) := by
  refine MetFree.of_bodySF (Jvm.Free.JP.mathPlain rfl (by decide +kernel)) hisR ?_
  intro p e s m args below meth c s₁ Bd hml0 hP hK
  obtain ⟨rfl, hZ, hh⟩ := hP
  have hx := Bd.exec
  have hby := Bd.bytes
  have hml : c.maxLocals = 2 := hml0
  have hown : s.vm.findClass "java/lang/Math" = some m.cls := findClass_of_methodNamed Bd.named
  have X0 : Stand p l e ro0 s m #[(.int p1), (.int p2)] below meth c s₁ [] 0 0 := Stand.of_body Bd
  have e0 : s₁.heap = h0 := by rw [← hh, Bd.state]; rfl
  have N0 := Fr.nil n0
  have pre0 : ∀ t, Steps p.tables e below (s₁.setTop (mkF m 0 #[.val (.int p1), .val (.int p2)] [])) t → Steps p.tables e below (s₁.setTop (entryFrame m #[(.int p1), (.int p2)] 2)) t := fun t k => castTop (ef_37 m p1 p2) k
  obtain ⟨fs, hr, hu, hd, hW, hme⟩ := X0.leave (v := some (.int (own_f37 p1 p2))) (fun h => by rw [Bd.returns] at h; cases h)
  refine ⟨_, _, pre0 _ ?_, hu, hd, _, _, rfl, ?_, ⟨_, rfl⟩, hW, hme.mono (by decide) (by decide)⟩
  · skip
    have J0 : ∀ (hv : own_f37 p1 p2 = own_f37 p1 p2 ), Steps p.tables e below (s₁.setTop (mkF m 0 #[.val (.int p1), .val (.int p2)] [])) (s₁.setFrames fs) := by
      intro hv
      show SQ p e below m s₁ 0 #[.val (.int p1), .val (.int p2)] [] _
      refine XS.iloadN X0.here hx rfl (hb hby d37_0) rfl ?_
      show SQ p e below m s₁ 1 #[.val (.int p1), .val (.int p2)] [(.int p1)] _
      refine XS.iloadN X0.here hx rfl (hb hby d37_1) rfl ?_
      show SQ p e below m s₁ 2 #[.val (.int p1), .val (.int p2)] [(.int p2), (.int p1)] _
      by_cases hc2 : p2 < p1
      · replace hv := hv.trans (if_pos hc2)
        refine XS.icmpYes X0.here hx rfl (pc0 := 2) (pc' := 9) rfl (hb hby d37_2) rfl (tlt hc2).2.2.1 (by decide) (by decide) ?_
        show SQ p e below m s₁ 9 #[.val (.int p1), .val (.int p2)] [] _
        refine XS.iloadN X0.here hx rfl (hb hby d37_9) rfl ?_
        show SQ p e below m s₁ 10 #[.val (.int p1), .val (.int p2)] [(.int p2)] _
        rw [hv] at hr
        exact retI X0 hx Bd.returns (hb hby d37_10) hr
      · replace hv := hv.trans (if_neg hc2)
        refine XS.icmpNo X0.here hx rfl (hb hby d37_2) rfl (flt hc2).2.2.1 ?_
        show SQ p e below m s₁ 5 #[.val (.int p1), .val (.int p2)] [] _
        refine XS.iloadN X0.here hx rfl (hb hby d37_5) rfl ?_
        show SQ p e below m s₁ 6 #[.val (.int p1), .val (.int p2)] [(.int p1)] _
        refine XS.goto X0.here hx rfl (pc0 := 6) (pc' := 10) rfl (hb hby d37_6) (by decide) (by decide) ?_
        show SQ p e below m s₁ 10 #[.val (.int p1), .val (.int p2)] [(.int p1)] _
        rw [hv] at hr
        exact retI X0 hx Bd.returns (hb hby d37_10) hr
    exact J0 rfl
  · show Q37 p1 p2 h0 n0 _ s₁.heap _
    rw [e0]
    exact ⟨rfl, N0, rfl⟩
theorem d10_0 : decode kb36 0 = .ok (.iload_n 0, 1) := by decide +kernel
theorem d10_1 : decode kb36 1 = .ok (.sipush 255, 3) := by decide +kernel
theorem d10_4 : decode kb36 4 = .ok (.if_icmp .gt 7, 3) := by decide +kernel
theorem d10_7 : decode kb36 7 = .ok (.iconst 1, 1) := by decide +kernel
theorem d10_8 : decode kb36 8 = .ok (.goto 4, 3) := by decide +kernel
theorem d10_11 : decode kb36 11 = .ok (.iconst 0, 1) := by decide +kernel
theorem d10_12 : decode kb36 12 = .ok (.ireturn, 1) := by decide +kernel
def own_f10 (p1 : Int32) : Int32 := (if (255 : Int32) < p1 then (0 : Int32) else (1 : Int32))
def Q10 (p1 : Int32) (h0 : Heap) (n0 : Nat) (v : Option Value) (h : Heap) (L : List Loc) : Prop := v = some (.int (own_f10 p1)) ∧ Fr n0 L ∧ h = h0
theorem ef_10 (m : MethodId) (x0 : Int32) : entryFrame m #[(.int x0)] 1 = mkF m 0 #[.val (.int x0)] [] := by first | (simp [entryFrame, mkF, argsToLocals, Value.category]; done) | rfl
theorem rm10 (l : Launch) (Z : State) (a0 : Array Value) (hw : ∀ d ∈ tables_1, d.before a0 Z = true) (ws : List Jvm.Cond) (p1 : Int32) (h0 : Heap) (n0 : Nat) :
    MetFree l mn26 (head1 (Jvm.Cond.code mn26 kb36 1 (some .boolean) :: ws) ro0) (fun a U => a = #[(.int p1)] ∧ Z.Warmed39 U.vm ∧ U.heap = h0) (fun _ _ _ _ _ => True) (fun _ U o U' => ∃ v L, o = .returned v ∧ Q10 p1 h0 n0 v U'.heap L ∧ FrameEnd U o U' L ro0.cells ro0.slots) := by
  refine MetFree.of_bodySF (plainFor_of_name pn_1) hisR ?_
  intro p e s m args below meth c s₁ Bd hml0 hP hK
  obtain ⟨rfl, hZ, hh⟩ := hP
  have hx := Bd.exec
  have hby := Bd.bytes
  have hml : c.maxLocals = 1 := hml0
  have hown : s.vm.findClass "java/lang/StringLatin1" = some m.cls := findClass_of_methodNamed Bd.named
  have X0 : Stand p l e ro0 s m #[(.int p1)] below meth c s₁ [] 0 0 := Stand.of_body Bd
  have e0 : s₁.heap = h0 := by rw [← hh, Bd.state]; rfl
  have N0 := Fr.nil n0
  have pre0 : ∀ t, Steps p.tables e below (s₁.setTop (mkF m 0 #[.val (.int p1)] [])) t → Steps p.tables e below (s₁.setTop (entryFrame m #[(.int p1)] 1)) t := fun t k => castTop (ef_10 m p1) k
  obtain ⟨fs, hr, hu, hd, hW, hme⟩ := X0.leave (v := some (.int (own_f10 p1))) (fun h => by rw [Bd.returns] at h; cases h)
  refine ⟨_, _, pre0 _ ?_, hu, hd, _, _, rfl, ?_, ⟨_, rfl⟩, hW, hme.mono (by decide) (by decide)⟩
  · skip
    have J0 : ∀ (hv : own_f10 p1 = own_f10 p1 ), Steps p.tables e below (s₁.setTop (mkF m 0 #[.val (.int p1)] [])) (s₁.setFrames fs) := by
      intro hv
      show SQ p e below m s₁ 0 #[.val (.int p1)] [] _
      refine XS.iloadN X0.here hx rfl (hb hby d10_0) rfl ?_
      show SQ p e below m s₁ 1 #[.val (.int p1)] [(.int p1)] _
      refine XS.sipush X0.here hx rfl (hb hby d10_1) ?_
      show SQ p e below m s₁ 4 #[.val (.int p1)] [(.int 255), (.int p1)] _
      by_cases hc4 : (255 : Int32) < p1
      · replace hv := hv.trans (if_pos hc4)
        refine XS.icmpYes X0.here hx rfl (pc0 := 4) (pc' := 11) rfl (hb hby d10_4) rfl (tlt hc4).2.2.1 (by decide) (by decide) ?_
        show SQ p e below m s₁ 11 #[.val (.int p1)] [] _
        refine XS.iconst X0.here hx rfl (hb hby d10_11) ?_
        show SQ p e below m s₁ 12 #[.val (.int p1)] [(.int 0)] _
        rw [hv] at hr
        exact retN X0 hx (t := .boolean) Bd.returns (by simp) (hb hby d10_12) hr
      · replace hv := hv.trans (if_neg hc4)
        refine XS.icmpNo X0.here hx rfl (hb hby d10_4) rfl (flt hc4).2.2.1 ?_
        show SQ p e below m s₁ 7 #[.val (.int p1)] [] _
        refine XS.iconst X0.here hx rfl (hb hby d10_7) ?_
        show SQ p e below m s₁ 8 #[.val (.int p1)] [(.int 1)] _
        refine XS.goto X0.here hx rfl (pc0 := 8) (pc' := 12) rfl (hb hby d10_8) (by decide) (by decide) ?_
        show SQ p e below m s₁ 12 #[.val (.int p1)] [(.int 1)] _
        rw [hv] at hr
        exact retN X0 hx (t := .boolean) Bd.returns (by simp) (hb hby d10_12) hr
    exact J0 rfl
  · show Q10 p1 h0 n0 _ s₁.heap _
    rw [e0]
    exact ⟨rfl, N0, rfl⟩
theorem d44_0 : decode kb26 0 = .ok (.iload_n 0, 1) := by decide +kernel
theorem d44_1 : decode kb26 1 = .ok (.ifCond .lt 14, 3) := by decide +kernel
theorem d44_4 : decode kb26 4 = .ok (.iload_n 0, 1) := by decide +kernel
theorem d44_5 : decode kb26 5 = .ok (.sipush 255, 3) := by decide +kernel
theorem d44_8 : decode kb26 8 = .ok (.if_icmp .gt 7, 3) := by decide +kernel
theorem d44_11 : decode kb26 11 = .ok (.iconst 1, 1) := by decide +kernel
theorem d44_12 : decode kb26 12 = .ok (.goto 4, 3) := by decide +kernel
theorem d44_15 : decode kb26 15 = .ok (.iconst 0, 1) := by decide +kernel
theorem d44_16 : decode kb26 16 = .ok (.ireturn, 1) := by decide +kernel
def own_f44_15 (p1 : Int32) : Int32 := (0 : Int32)
def own_f44 (p1 : Int32) : Int32 := (if p1 < (0 : Int32) then (own_f44_15 p1 ) else (if (255 : Int32) < p1 then (own_f44_15 p1 ) else (1 : Int32)))
def Q44 (p1 : Int32) (h0 : Heap) (n0 : Nat) (v : Option Value) (h : Heap) (L : List Loc) : Prop := v = some (.int (own_f44 p1)) ∧ Fr n0 L ∧ h = h0
theorem ef_44 (m : MethodId) (x0 : Int32) : entryFrame m #[(.int x0)] 1 = mkF m 0 #[.val (.int x0)] [] := by first | (simp [entryFrame, mkF, argsToLocals, Value.category]; done) | rfl
theorem rm44 (l : Launch) (Z : State) (a0 : Array Value) (hw : ∀ d ∈ tables_1, d.before a0 Z = true) (ws : List Jvm.Cond) (p1 : Int32) (h0 : Heap) (n0 : Nat) :
    MetFree l mn21 (head1 (Jvm.Cond.code mn21 kb26 1 (some .boolean) :: ws) ro0) (fun a U => a = #[(.int p1)] ∧ Z.Warmed39 U.vm ∧ U.heap = h0) (fun _ _ _ _ _ => True) (fun _ U o U' => ∃ v L, o = .returned v ∧ Q44 p1 h0 n0 v U'.heap L ∧ FrameEnd U o U' L ro0.cells ro0.slots) := by
  refine MetFree.of_bodySF (plainFor_of_name pn_1) hisR ?_
  intro p e s m args below meth c s₁ Bd hml0 hP hK
  obtain ⟨rfl, hZ, hh⟩ := hP
  have hx := Bd.exec
  have hby := Bd.bytes
  have hml : c.maxLocals = 1 := hml0
  have hown : s.vm.findClass "java/lang/StringLatin1" = some m.cls := findClass_of_methodNamed Bd.named
  have X0 : Stand p l e ro0 s m #[(.int p1)] below meth c s₁ [] 0 0 := Stand.of_body Bd
  have e0 : s₁.heap = h0 := by rw [← hh, Bd.state]; rfl
  have N0 := Fr.nil n0
  have pre0 : ∀ t, Steps p.tables e below (s₁.setTop (mkF m 0 #[.val (.int p1)] [])) t → Steps p.tables e below (s₁.setTop (entryFrame m #[(.int p1)] 1)) t := fun t k => castTop (ef_44 m p1) k
  obtain ⟨fs, hr, hu, hd, hW, hme⟩ := X0.leave (v := some (.int (own_f44 p1))) (fun h => by rw [Bd.returns] at h; cases h)
  refine ⟨_, _, pre0 _ ?_, hu, hd, _, _, rfl, ?_, ⟨_, rfl⟩, hW, hme.mono (by decide) (by decide)⟩
  · skip
    have J15 : ∀ (hv : own_f44 p1 = own_f44_15 p1 ), Steps p.tables e below (s₁.setTop (mkF m 15 #[.val (.int p1)] [])) (s₁.setFrames fs) := by
      intro hv
      show SQ p e below m s₁ 15 #[.val (.int p1)] [] _
      refine XS.iconst X0.here hx rfl (hb hby d44_15) ?_
      show SQ p e below m s₁ 16 #[.val (.int p1)] [(.int 0)] _
      rw [hv] at hr
      exact retN X0 hx (t := .boolean) Bd.returns (by simp) (hb hby d44_16) hr
    have J0 : ∀ (hv : own_f44 p1 = own_f44 p1 ), Steps p.tables e below (s₁.setTop (mkF m 0 #[.val (.int p1)] [])) (s₁.setFrames fs) := by
      intro hv
      show SQ p e below m s₁ 0 #[.val (.int p1)] [] _
      refine XS.iloadN X0.here hx rfl (hb hby d44_0) rfl ?_
      show SQ p e below m s₁ 1 #[.val (.int p1)] [(.int p1)] _
      by_cases hc1 : p1 < (0 : Int32)
      · replace hv := hv.trans (if_pos hc1)
        refine XS.ifYes X0.here hx rfl (pc0 := 1) (pc' := 15) rfl (hb hby d44_1) rfl ((if0 _ _).trans (tlt hc1).1) (by decide) (by decide) ?_
        exact J15  hv
      · replace hv := hv.trans (if_neg hc1)
        refine XS.ifNo X0.here hx rfl (hb hby d44_1) rfl ((if0 _ _).trans (flt hc1).1) ?_
        show SQ p e below m s₁ 4 #[.val (.int p1)] [] _
        refine XS.iloadN X0.here hx rfl (hb hby d44_4) rfl ?_
        show SQ p e below m s₁ 5 #[.val (.int p1)] [(.int p1)] _
        refine XS.sipush X0.here hx rfl (hb hby d44_5) ?_
        show SQ p e below m s₁ 8 #[.val (.int p1)] [(.int 255), (.int p1)] _
        by_cases hc8 : (255 : Int32) < p1
        · replace hv := hv.trans (if_pos hc8)
          refine XS.icmpYes X0.here hx rfl (pc0 := 8) (pc' := 15) rfl (hb hby d44_8) rfl (tlt hc8).2.2.1 (by decide) (by decide) ?_
          exact J15  hv
        · replace hv := hv.trans (if_neg hc8)
          refine XS.icmpNo X0.here hx rfl (hb hby d44_8) rfl (flt hc8).2.2.1 ?_
          show SQ p e below m s₁ 11 #[.val (.int p1)] [] _
          refine XS.iconst X0.here hx rfl (hb hby d44_11) ?_
          show SQ p e below m s₁ 12 #[.val (.int p1)] [(.int 1)] _
          refine XS.goto X0.here hx rfl (pc0 := 12) (pc' := 16) rfl (hb hby d44_12) (by decide) (by decide) ?_
          show SQ p e below m s₁ 16 #[.val (.int p1)] [(.int 1)] _
          rw [hv] at hr
          exact retN X0 hx (t := .boolean) Bd.returns (by simp) (hb hby d44_16) hr
    exact J0 rfl
  · show Q44 p1 h0 n0 _ s₁.heap _
    rw [e0]
    exact ⟨rfl, N0, rfl⟩

def own_lo (c : Int32) : Int32 := nar .byte (c >>> ((0 : Int32) &&& 31)).toInt8.toInt32
def own_hi (c : Int32) : Int32 := nar .byte (c >>> ((8 : Int32) &&& 31)).toInt8.toInt32
theorem own_lo8 (c : Int32) : own_lo c = c.toInt8.toInt32 := by
  unfold own_lo; rw [StrChars.shr0]; simp [nar]
theorem own_hi8 (c : Int32) : own_hi c = StrChars.hi8 c := by
  unfold own_hi StrChars.hi8 StrChars.lo8; simp [nar]
def own_b (c : Int32) : Int32 := nar .byte c.toInt8.toInt32
theorem own_b8 (c : Int32) : own_b c = c.toInt8.toInt32 := by
  unfold own_b; simp [nar]
def own_c8 (x : Int32) : Int32 := (x &&& 255).toUInt32.toUInt16.toUInt32.toInt32
def own_pr (u v : Int32) : Int32 := (((u &&& 255) <<< ((0 : Int32) &&& 31)) ||| ((v &&& 255) <<< ((8 : Int32) &&& 31))).toUInt32.toUInt16.toUInt32.toInt32
def own_i1 (b x0 : Int32) : Int32 := if x0 = b then 0 else -1
def own_i2 (b x0 x1 : Int32) : Int32 := if x0 = b then 0 else if x1 = b then 1 else -1
def own_j0 (_ : Int32) : Int32 := -1
def own_j1 (c x0 : Int32) : Int32 := if own_f44 c = 0 then -1 else own_i1 c.toInt8.toInt32 x0
def own_j2 (c x0 x1 : Int32) : Int32 := if own_f44 c = 0 then -1 else own_i2 c.toInt8.toInt32 x0 x1
def own_u1 (c x0 x1 : Int32) : Int32 := own_i1 c (own_pr x0 x1)
def own_u2 (c x0 x1 x2 x3 : Int32) : Int32 := own_i2 c (own_pr x0 x1) (own_pr x2 x3)
theorem own_prs {c : Int32} (h : ¬ c < 0 ∧ ¬ (65535 : Int32) < c) : own_pr (own_lo c) (own_hi c) = c := by
  have q := StrChars.pair_says h.1 h.2
  rw [own_lo8, own_hi8]; exact q

def Qrm28_10 (Z : State) (a1 : Addr) (p2 p3 : Int32) (kd : ClassId) (x0 x1 : Int32) (h0 : Heap) (n0 : Nat) (v : Option Value) (h : Heap) (L : List Loc) : Prop := v = none ∧ Fr n0 L ∧ Keep h0 h [a1] ∧ Arv Z h a1 kd .byte (2 : Int32) [(.int (own_lo p3)), (.int (own_hi p3))] (.int 0)
theorem d28_0 : decode kb8 0 = .ok (.getstatic 44, 3) := by decide +kernel
theorem d28_3 : decode kb8 3 = .ok (.ifCond .ne 25, 3) := by decide +kernel
theorem d28_28 : decode kb8 28 = .ok (.iload_n 1, 1) := by decide +kernel
theorem d28_29 : decode kb8 29 = .ok (.iconst 1, 1) := by decide +kernel
theorem d28_30 : decode kb8 30 = .ok (.ishl, 1) := by decide +kernel
theorem d28_31 : decode kb8 31 = .ok (.istore_n 1, 1) := by decide +kernel
theorem d28_32 : decode kb8 32 = .ok (.aload_n 0, 1) := by decide +kernel
theorem d28_33 : decode kb8 33 = .ok (.iload_n 1, 1) := by decide +kernel
theorem d28_34 : decode kb8 34 = .ok (.iinc 1 1, 3) := by decide +kernel
theorem d28_37 : decode kb8 37 = .ok (.iload_n 2, 1) := by decide +kernel
theorem d28_38 : decode kb8 38 = .ok (.getstatic 59, 3) := by decide +kernel
theorem d28_41 : decode kb8 41 = .ok (.ishr, 1) := by decide +kernel
theorem d28_42 : decode kb8 42 = .ok (.i2b, 1) := by decide +kernel
theorem d28_43 : decode kb8 43 = .ok (.bastore, 1) := by decide +kernel
theorem d28_44 : decode kb8 44 = .ok (.aload_n 0, 1) := by decide +kernel
theorem d28_45 : decode kb8 45 = .ok (.iload_n 1, 1) := by decide +kernel
theorem d28_46 : decode kb8 46 = .ok (.iload_n 2, 1) := by decide +kernel
theorem d28_47 : decode kb8 47 = .ok (.getstatic 63, 3) := by decide +kernel
theorem d28_50 : decode kb8 50 = .ok (.ishr, 1) := by decide +kernel
theorem d28_51 : decode kb8 51 = .ok (.i2b, 1) := by decide +kernel
theorem d28_52 : decode kb8 52 = .ok (.bastore, 1) := by decide +kernel
theorem d28_53 : decode kb8 53 = .ok (.return_, 1) := by decide +kernel
theorem ef_28 (m : MethodId) (x0 : Addr) (x1 x2 : Int32) : entryFrame m #[(.ref x0), (.int x1), (.int x2)] 3 = mkF m 0 #[rv x0, iv x1, iv x2] [] := by first | (simp [entryFrame, mkF, argsToLocals, Value.category]; done) | rfl
theorem rm28_10 (l : Launch) (Z : State) (a0 : Array Value) (hw : HW a0 Z) (ws : List Jvm.Cond) (a1 : Addr) (p2 p3 : Int32) (kd : ClassId) (x0 x1 : Int32) (h0 : Heap) (n0 : Nat) (Z0 : n0 ≤ h0.size) (V_a1 : Arv Z h0 a1 kd .byte (2 : Int32) [(.int x0), (.int x1)] (.int 0)) (sA : sta0 Z h0 (.int 1)) (sH : sta1 Z h0 (.int 0)) (sL : sta2 Z h0 (.int 8)) (ge_a1 : n0 ≤ a1) (hp2 : p2 = (0 : Int32)) :
    MF l Z h0 mn14 kb8 3 none ws ro0 #[(.ref a1), (.int p2), (.int p3)] (Qrm28_10 Z a1 p2 p3 kd x0 x1 h0 n0) := by
  refine own_go "java/lang/StringUTF16" rfl #[rv a1, iv p2, iv p3] (fun m => ef_28 m a1 p2 p3) (plainFor_of_name pn_2) ?_
  intro p e s m below meth c s₁ S0 Bd hx hby hml hown hZ X0 e0 pre0
  have N0 := Fr.nil n0
  subst hp2
  obtain ⟨T1, X1, e1, st1⟩ := getS2 X0 hx hZ hown (host := "") (Or.inl (wi hw 132 rfl)) Via.refl e0 sA (g := (mkF m 0 #[rv a1, iv 0, iv p3] [])) rfl (hb hby d28_0)
  have pre1 : PQ p e below m S0 T1 3 #[rv a1, iv 0, iv p3] [(.int 1)] := fun t kt => pre0 t (st1 _ kt)
  have pre2 : PQ p e below m S0 T1 38 #[rv a1, iv 1, iv p3] [(.int p3), (.int 0), (.ref a1)] := by
    intro t kt
    refine pre1 t ?_
    refine ow_ifYes X1.here hx hby d28_3 ((if0 _ _).trans (feq (by decide)).2) (pc' := 28) (by decide) (by decide) ?_
    refine ow_iloadN X1.here hx hby d28_28 rfl ?_
    refine ow_iconst X1.here hx hby d28_29 (v := 1) rfl ?_
    refine XS.ishl X1.here hx rfl (hb hby d28_30) rfl ?_
    show SQ p e below m T1 31 #[rv a1, iv 0, iv p3] [(.int 0)] _
    refine ow_istoreN X1.here hx hby d28_31 (l' := #[rv a1, iv 0, iv p3]) rfl ?_
    refine ow_aloadN X1.here hx hby d28_32 rfl rfl ?_
    refine ow_iloadN X1.here hx hby d28_33 rfl ?_
    refine ow_iinc X1.here hx hby d28_34 rfl (l' := #[rv a1, iv 1, iv p3]) rfl ?_
    show SQ p e below m T1 37 #[rv a1, iv 1, iv p3] [(.int 0), (.ref a1)] _
    refine ow_iloadN X1.here hx hby d28_37 rfl ?_
    exact kt
  obtain ⟨T3, X3, e3, st3⟩ := getS2 X1 hx hZ hown (host := "") (Or.inl (wi hw 133 rfl)) Via.refl e1 sH (g := (mkF m 38 #[rv a1, iv 1, iv p3] [(.int p3), (.int 0), (.ref a1)])) rfl (hb hby d28_38)
  have pre3 : PQ p e below m S0 T3 41 #[rv a1, iv 1, iv p3] [(.int 0), (.int p3), (.int 0), (.ref a1)] := fun t kt => pre2 t (st3 _ kt)
  have pre4 : PQ p e below m S0 T3 43 #[rv a1, iv 1, iv p3] [(.int ((p3 >>> ((0 : Int32) &&& 31)).toInt8.toInt32)), (.int 0), (.ref a1)] := by
    intro t kt
    refine pre3 t ?_
    refine XS.ishr X3.here hx rfl (hb hby d28_41) rfl ?_
    show SQ p e below m T3 42 #[rv a1, iv 1, iv p3] [(.int (p3 >>> ((0 : Int32) &&& 31))), (.int 0), (.ref a1)] _
    refine XS.i2b X3.here hx rfl (hb hby d28_42) rfl ?_
    exact kt
  obtain ⟨cl5, Ar5, q5, S5, M5, H5, G5⟩ := (id V_a1)
  have hin5 := inb_of (j := (0 : Int32)) S5 ⟨by decide, by decide⟩
  obtain ⟨T5, h5, X5, e5, W5, st5⟩ := stB X3 hx hZ e3 Ar5 (j := (0 : Int32)) hin5 (g := (mkF m 43 #[rv a1, iv 1, iv p3] [(.int ((p3 >>> ((0 : Int32) &&& 31)).toInt8.toInt32)), (.int 0), (.ref a1)])) rfl rfl (hb hby d28_43)
  have V_a1_5 := Arv.set Ar5 q5 S5 M5 H5 G5 (fits_nar_byte _) W5 0 rfl (Nat.le_of_ble_eq_true rfl)
  have N5 := Fr.snoc X5 N0 ge_a1
  have K5 := (Keep.refl h0 [a1]).wr W5 (Or.inl (List.mem_of_getElem? (i := 0) rfl))
  have Z5 := Nat.le_trans Z0 (Keep.of_wr W5).1
  have sA_7 := sA.wr W5
  have sH_8 := sH.wr W5
  have sL_9 := sL.wr W5
  have V_a1_5' : Arv Z h5 a1 kd .byte (2 : Int32) [(.int (nar .byte ((p3 >>> ((0 : Int32) &&& 31)).toInt8.toInt32))), (.int x1)] (.int 0) := V_a1_5
  have pre5 : PQ p e below m S0 T5 44 #[rv a1, iv 1, iv p3] [] := fun t kt => pre4 t (st5 _ kt)
  have pre10 : PQ p e below m S0 T5 47 #[rv a1, iv 1, iv p3] [(.int p3), (.int 1), (.ref a1)] := by
    intro t kt
    refine pre5 t ?_
    refine ow_aloadN X5.here hx hby d28_44 rfl rfl ?_
    refine ow_iloadN X5.here hx hby d28_45 rfl ?_
    refine ow_iloadN X5.here hx hby d28_46 rfl ?_
    exact kt
  obtain ⟨T11, X11, e11, st11⟩ := getS2 X5 hx hZ hown (host := "") (Or.inl (wi hw 134 rfl)) Via.refl e5 sL_9 (g := (mkF m 47 #[rv a1, iv 1, iv p3] [(.int p3), (.int 1), (.ref a1)])) rfl (hb hby d28_47)
  have pre11 : PQ p e below m S0 T11 50 #[rv a1, iv 1, iv p3] [(.int 8), (.int p3), (.int 1), (.ref a1)] := fun t kt => pre10 t (st11 _ kt)
  have pre12 : PQ p e below m S0 T11 52 #[rv a1, iv 1, iv p3] [(.int ((p3 >>> ((8 : Int32) &&& 31)).toInt8.toInt32)), (.int 1), (.ref a1)] := by
    intro t kt
    refine pre11 t ?_
    refine XS.ishr X11.here hx rfl (hb hby d28_50) rfl ?_
    show SQ p e below m T11 51 #[rv a1, iv 1, iv p3] [(.int (p3 >>> ((8 : Int32) &&& 31))), (.int 1), (.ref a1)] _
    refine XS.i2b X11.here hx rfl (hb hby d28_51) rfl ?_
    exact kt
  obtain ⟨cl13, Ar13, q13, S13, M13, H13, G13⟩ := (id V_a1_5')
  have hin13 := inb_of (j := (1 : Int32)) S13 ⟨by decide, by decide⟩
  obtain ⟨T13, h13, X13, e13, W13, st13⟩ := stB X11 hx hZ e11 Ar13 (j := (1 : Int32)) hin13 (g := (mkF m 52 #[rv a1, iv 1, iv p3] [(.int ((p3 >>> ((8 : Int32) &&& 31)).toInt8.toInt32)), (.int 1), (.ref a1)])) rfl rfl (hb hby d28_52)
  have V_a1_13 := Arv.set Ar13 q13 S13 M13 H13 G13 (fits_nar_byte _) W13 1 rfl (Nat.le_of_ble_eq_true rfl)
  have N13 := Fr.snoc X13 N5 ge_a1
  have K13 := K5.wr W13 (Or.inl (List.mem_of_getElem? (i := 0) rfl))
  have Z13 := Nat.le_trans Z5 (Keep.of_wr W13).1
  have sA_15 := sA_7.wr W13
  have sH_16 := sH_8.wr W13
  have sL_17 := sL_9.wr W13
  have V_a1_13' : Arv Z h13 a1 kd .byte (2 : Int32) [(.int (nar .byte ((p3 >>> ((0 : Int32) &&& 31)).toInt8.toInt32))), (.int (nar .byte ((p3 >>> ((8 : Int32) &&& 31)).toInt8.toInt32)))] (.int 0) := V_a1_13
  have pre13 : PQ p e below m S0 T13 53 #[rv a1, iv 1, iv p3] [] := fun t kt => pre12 t (st13 _ kt)
  obtain ⟨fs, hr, hu, hd, hW, hme⟩ := X13.leave (v := none) (fun _ => rfl)
  refine ⟨_, _, pre13 _ ?_, hu, hd, _, _, rfl, ?_, ⟨_, rfl⟩, hW, hme.mono (by decide) (by decide)⟩
  · show SQ p e below m T13 53 #[rv a1, iv 1, iv p3] [] _
    exact X13.returnOut hx Bd.returns (hb hby d28_53) hr
  · show Qrm28_10 Z a1 (0 : Int32) p3 kd x0 x1 h0 n0 _ T13.heap _
    rw [e13]
    exact ⟨rfl, N13, K13, V_a1_13'⟩
def Qrm29_10 (Z : State) (a1 : Addr) (p2 : Int32) (kd : ClassId) (x0 x1 : Int32) (h0 : Heap) (n0 : Nat) (v : Option Value) (h : Heap) (L : List Loc) : Prop := v = some (.int (own_pr x0 x1)) ∧ Fr n0 L ∧ h = h0
theorem d29_0 : decode kb7 0 = .ok (.getstatic 44, 3) := by decide +kernel
theorem d29_3 : decode kb7 3 = .ok (.ifCond .ne 25, 3) := by decide +kernel
theorem d29_28 : decode kb7 28 = .ok (.iload_n 1, 1) := by decide +kernel
theorem d29_29 : decode kb7 29 = .ok (.iconst 1, 1) := by decide +kernel
theorem d29_30 : decode kb7 30 = .ok (.ishl, 1) := by decide +kernel
theorem d29_31 : decode kb7 31 = .ok (.istore_n 1, 1) := by decide +kernel
theorem d29_32 : decode kb7 32 = .ok (.aload_n 0, 1) := by decide +kernel
theorem d29_33 : decode kb7 33 = .ok (.iload_n 1, 1) := by decide +kernel
theorem d29_34 : decode kb7 34 = .ok (.iinc 1 1, 3) := by decide +kernel
theorem d29_37 : decode kb7 37 = .ok (.baload, 1) := by decide +kernel
theorem d29_38 : decode kb7 38 = .ok (.sipush 255, 3) := by decide +kernel
theorem d29_41 : decode kb7 41 = .ok (.iand, 1) := by decide +kernel
theorem d29_42 : decode kb7 42 = .ok (.getstatic 59, 3) := by decide +kernel
theorem d29_45 : decode kb7 45 = .ok (.ishl, 1) := by decide +kernel
theorem d29_46 : decode kb7 46 = .ok (.aload_n 0, 1) := by decide +kernel
theorem d29_47 : decode kb7 47 = .ok (.iload_n 1, 1) := by decide +kernel
theorem d29_48 : decode kb7 48 = .ok (.baload, 1) := by decide +kernel
theorem d29_49 : decode kb7 49 = .ok (.sipush 255, 3) := by decide +kernel
theorem d29_52 : decode kb7 52 = .ok (.iand, 1) := by decide +kernel
theorem d29_53 : decode kb7 53 = .ok (.getstatic 63, 3) := by decide +kernel
theorem d29_56 : decode kb7 56 = .ok (.ishl, 1) := by decide +kernel
theorem d29_57 : decode kb7 57 = .ok (.ior, 1) := by decide +kernel
theorem d29_58 : decode kb7 58 = .ok (.i2c, 1) := by decide +kernel
theorem d29_59 : decode kb7 59 = .ok (.ireturn, 1) := by decide +kernel
theorem ef_29 (m : MethodId) (x0 : Addr) (x1 : Int32) : entryFrame m #[(.ref x0), (.int x1)] 2 = mkF m 0 #[rv x0, iv x1] [] := by first | (simp [entryFrame, mkF, argsToLocals, Value.category]; done) | rfl
theorem rm29_10 (l : Launch) (Z : State) (a0 : Array Value) (hw : HW a0 Z) (ws : List Jvm.Cond) (a1 : Addr) (p2 : Int32) (kd : ClassId) (x0 x1 : Int32) (h0 : Heap) (n0 : Nat) (Z0 : n0 ≤ h0.size) (V_a1 : Arv Z h0 a1 kd .byte (2 : Int32) [(.int x0), (.int x1)] (.int 0)) (sA : sta0 Z h0 (.int 1)) (sH : sta1 Z h0 (.int 0)) (sL : sta2 Z h0 (.int 8)) (hp2 : p2 = (0 : Int32)) :
    MF l Z h0 mn6 kb7 2 (some .char) ws ro0 #[(.ref a1), (.int p2)] (Qrm29_10 Z a1 p2 kd x0 x1 h0 n0) := by
  refine own_go "java/lang/StringUTF16" rfl #[rv a1, iv p2] (fun m => ef_29 m a1 p2) (plainFor_of_name pn_2) ?_
  intro p e s m below meth c s₁ S0 Bd hx hby hml hown hZ X0 e0 pre0
  have N0 := Fr.nil n0
  subst hp2
  obtain ⟨T1, X1, e1, st1⟩ := getS2 X0 hx hZ hown (host := "") (Or.inl (wi hw 132 rfl)) Via.refl e0 sA (g := (mkF m 0 #[rv a1, iv 0] [])) rfl (hb hby d29_0)
  have pre1 : PQ p e below m S0 T1 3 #[rv a1, iv 0] [(.int 1)] := fun t kt => pre0 t (st1 _ kt)
  have pre3 : PQ p e below m S0 T1 42 #[rv a1, iv 1] [(.int (x0 &&& (255 : Int32)))] := by
    intro t kt
    refine pre1 t ?_
    refine ow_ifYes X1.here hx hby d29_3 ((if0 _ _).trans (feq (by decide)).2) (pc' := 28) (by decide) (by decide) ?_
    refine ow_iloadN X1.here hx hby d29_28 rfl ?_
    refine ow_iconst X1.here hx hby d29_29 (v := 1) rfl ?_
    refine XS.ishl X1.here hx rfl (hb hby d29_30) rfl ?_
    show SQ p e below m T1 31 #[rv a1, iv 0] [(.int 0)] _
    refine ow_istoreN X1.here hx hby d29_31 (l' := #[rv a1, iv 0]) rfl ?_
    refine ow_aloadN X1.here hx hby d29_32 rfl rfl ?_
    refine ow_iloadN X1.here hx hby d29_33 rfl ?_
    refine ow_iinc X1.here hx hby d29_34 rfl (l' := #[rv a1, iv 1]) rfl ?_
    show SQ p e below m T1 37 #[rv a1, iv 1] [(.int 0), (.ref a1)] _
    obtain ⟨cl2, Ar2, -, S2, M2, H2, -⟩ := (id V_a1)
    have hin2 := inb_of (j := (0 : Int32)) S2 ⟨by decide, by decide⟩
    refine X1.baloadBytes hx (j := (0 : Int32)) (v := (.int x0)) (by rw [e1]; exact Ar2.1) (State.isArrayOf_alike hZ.alike Ar2.2.1) Ar2.2.2 hin2 (H2.at hin2 rfl) (g := (mkF m 37 #[rv a1, iv 1] [(.int 0), (.ref a1)])) rfl rfl (hb hby d29_37) _ ?_
    show SQ p e below m T1 38 #[rv a1, iv 1] [(.int x0)] _
    refine ow_sipush X1.here hx hby d29_38 (v := 255) rfl ?_
    refine ow_iand X1.here hx hby d29_41 ?_
    exact kt
  obtain ⟨T4, X4, e4, st4⟩ := getS2 X1 hx hZ hown (host := "") (Or.inl (wi hw 133 rfl)) Via.refl e1 sH (g := (mkF m 42 #[rv a1, iv 1] [(.int (x0 &&& (255 : Int32)))])) rfl (hb hby d29_42)
  have pre4 : PQ p e below m S0 T4 45 #[rv a1, iv 1] [(.int 0), (.int (x0 &&& (255 : Int32)))] := fun t kt => pre3 t (st4 _ kt)
  have pre6 : PQ p e below m S0 T4 53 #[rv a1, iv 1] [(.int (x1 &&& (255 : Int32))), (.int ((x0 &&& (255 : Int32)) <<< ((0 : Int32) &&& 31)))] := by
    intro t kt
    refine pre4 t ?_
    refine XS.ishl X4.here hx rfl (hb hby d29_45) rfl ?_
    show SQ p e below m T4 46 #[rv a1, iv 1] [(.int ((x0 &&& (255 : Int32)) <<< ((0 : Int32) &&& 31)))] _
    refine ow_aloadN X4.here hx hby d29_46 rfl rfl ?_
    refine ow_iloadN X4.here hx hby d29_47 rfl ?_
    obtain ⟨cl5, Ar5, -, S5, M5, H5, -⟩ := (id V_a1)
    have hin5 := inb_of (j := (1 : Int32)) S5 ⟨by decide, by decide⟩
    refine X4.baloadBytes hx (j := (1 : Int32)) (v := (.int x1)) (by rw [e4]; exact Ar5.1) (State.isArrayOf_alike hZ.alike Ar5.2.1) Ar5.2.2 hin5 (H5.at hin5 rfl) (g := (mkF m 48 #[rv a1, iv 1] [(.int 1), (.ref a1), (.int ((x0 &&& (255 : Int32)) <<< ((0 : Int32) &&& 31)))])) rfl rfl (hb hby d29_48) _ ?_
    show SQ p e below m T4 49 #[rv a1, iv 1] [(.int x1), (.int ((x0 &&& (255 : Int32)) <<< ((0 : Int32) &&& 31)))] _
    refine ow_sipush X4.here hx hby d29_49 (v := 255) rfl ?_
    refine ow_iand X4.here hx hby d29_52 ?_
    exact kt
  obtain ⟨T7, X7, e7, st7⟩ := getS2 X4 hx hZ hown (host := "") (Or.inl (wi hw 134 rfl)) Via.refl e4 sL (g := (mkF m 53 #[rv a1, iv 1] [(.int (x1 &&& (255 : Int32))), (.int ((x0 &&& (255 : Int32)) <<< ((0 : Int32) &&& 31)))])) rfl (hb hby d29_53)
  have pre7 : PQ p e below m S0 T7 56 #[rv a1, iv 1] [(.int 8), (.int (x1 &&& (255 : Int32))), (.int ((x0 &&& (255 : Int32)) <<< ((0 : Int32) &&& 31)))] := fun t kt => pre6 t (st7 _ kt)
  have pre8 : PQ p e below m S0 T7 59 #[rv a1, iv 1] [(.int ((((x0 &&& (255 : Int32)) <<< ((0 : Int32) &&& 31)) ||| ((x1 &&& (255 : Int32)) <<< ((8 : Int32) &&& 31))).toUInt32.toUInt16.toUInt32.toInt32))] := by
    intro t kt
    refine pre7 t ?_
    refine XS.ishl X7.here hx rfl (hb hby d29_56) rfl ?_
    show SQ p e below m T7 57 #[rv a1, iv 1] [(.int ((x1 &&& (255 : Int32)) <<< ((8 : Int32) &&& 31))), (.int ((x0 &&& (255 : Int32)) <<< ((0 : Int32) &&& 31)))] _
    refine ow_ior X7.here hx hby d29_57 ?_
    refine XS.i2c X7.here hx rfl (hb hby d29_58) rfl ?_
    exact kt
  have hres : (nar .char ((((x0 &&& (255 : Int32)) <<< ((0 : Int32) &&& 31)) ||| ((x1 &&& (255 : Int32)) <<< ((8 : Int32) &&& 31))).toUInt32.toUInt16.toUInt32.toInt32)) = (own_pr x0 x1) := own_nc _
  obtain ⟨fs, hr, hu, hd, hW, hme⟩ := X7.leave (v := some (.int (nar .char ((((x0 &&& (255 : Int32)) <<< ((0 : Int32) &&& 31)) ||| ((x1 &&& (255 : Int32)) <<< ((8 : Int32) &&& 31))).toUInt32.toUInt16.toUInt32.toInt32)))) (fun h => by rw [Bd.returns] at h; cases h)
  refine ⟨_, _, pre8 _ ?_, hu, hd, _, _, rfl, ?_, ⟨_, rfl⟩, hW, hme.mono (by decide) (by decide)⟩
  · show SQ p e below m T7 59 #[rv a1, iv 1] [(.int ((((x0 &&& (255 : Int32)) <<< ((0 : Int32) &&& 31)) ||| ((x1 &&& (255 : Int32)) <<< ((8 : Int32) &&& 31))).toUInt32.toUInt16.toUInt32.toInt32))] _
    exact retN X7 hx (t := .char) Bd.returns (by simp) (hb hby d29_59) hr
  · show Qrm29_10 Z a1 (0 : Int32) kd x0 x1 h0 n0 _ T7.heap _
    rw [e7]
    exact ⟨congrArg some (congrArg Value.int hres), N0, rfl⟩
def Qrm28_20 (Z : State) (a1 : Addr) (p2 p3 : Int32) (kd : ClassId) (x0 x1 : Int32) (x2 x3 : Int32) (h0 : Heap) (n0 : Nat) (v : Option Value) (h : Heap) (L : List Loc) : Prop := v = none ∧ Fr n0 L ∧ Keep h0 h [a1] ∧ Arv Z h a1 kd .byte (4 : Int32) [(.int (own_lo p3)), (.int (own_hi p3)), (.int x2), (.int x3)] (.int 0)

theorem rm28_20 (l : Launch) (Z : State) (a0 : Array Value) (hw : HW a0 Z) (ws : List Jvm.Cond) (a1 : Addr) (p2 p3 : Int32) (kd : ClassId) (x0 x1 : Int32) (x2 x3 : Int32) (h0 : Heap) (n0 : Nat) (Z0 : n0 ≤ h0.size) (V_a1 : Arv Z h0 a1 kd .byte (4 : Int32) [(.int x0), (.int x1), (.int x2), (.int x3)] (.int 0)) (sA : sta0 Z h0 (.int 1)) (sH : sta1 Z h0 (.int 0)) (sL : sta2 Z h0 (.int 8)) (ge_a1 : n0 ≤ a1) (hp2 : p2 = (0 : Int32)) :
    MF l Z h0 mn14 kb8 3 none ws ro0 #[(.ref a1), (.int p2), (.int p3)] (Qrm28_20 Z a1 p2 p3 kd x0 x1 x2 x3 h0 n0) := by
  refine own_go "java/lang/StringUTF16" rfl #[rv a1, iv p2, iv p3] (fun m => ef_28 m a1 p2 p3) (plainFor_of_name pn_2) ?_
  intro p e s m below meth c s₁ S0 Bd hx hby hml hown hZ X0 e0 pre0
  have N0 := Fr.nil n0
  subst hp2
  obtain ⟨T1, X1, e1, st1⟩ := getS2 X0 hx hZ hown (host := "") (Or.inl (wi hw 132 rfl)) Via.refl e0 sA (g := (mkF m 0 #[rv a1, iv 0, iv p3] [])) rfl (hb hby d28_0)
  have pre1 : PQ p e below m S0 T1 3 #[rv a1, iv 0, iv p3] [(.int 1)] := fun t kt => pre0 t (st1 _ kt)
  have pre2 : PQ p e below m S0 T1 38 #[rv a1, iv 1, iv p3] [(.int p3), (.int 0), (.ref a1)] := by
    intro t kt
    refine pre1 t ?_
    refine ow_ifYes X1.here hx hby d28_3 ((if0 _ _).trans (feq (by decide)).2) (pc' := 28) (by decide) (by decide) ?_
    refine ow_iloadN X1.here hx hby d28_28 rfl ?_
    refine ow_iconst X1.here hx hby d28_29 (v := 1) rfl ?_
    refine XS.ishl X1.here hx rfl (hb hby d28_30) rfl ?_
    show SQ p e below m T1 31 #[rv a1, iv 0, iv p3] [(.int 0)] _
    refine ow_istoreN X1.here hx hby d28_31 (l' := #[rv a1, iv 0, iv p3]) rfl ?_
    refine ow_aloadN X1.here hx hby d28_32 rfl rfl ?_
    refine ow_iloadN X1.here hx hby d28_33 rfl ?_
    refine ow_iinc X1.here hx hby d28_34 rfl (l' := #[rv a1, iv 1, iv p3]) rfl ?_
    show SQ p e below m T1 37 #[rv a1, iv 1, iv p3] [(.int 0), (.ref a1)] _
    refine ow_iloadN X1.here hx hby d28_37 rfl ?_
    exact kt
  obtain ⟨T3, X3, e3, st3⟩ := getS2 X1 hx hZ hown (host := "") (Or.inl (wi hw 133 rfl)) Via.refl e1 sH (g := (mkF m 38 #[rv a1, iv 1, iv p3] [(.int p3), (.int 0), (.ref a1)])) rfl (hb hby d28_38)
  have pre3 : PQ p e below m S0 T3 41 #[rv a1, iv 1, iv p3] [(.int 0), (.int p3), (.int 0), (.ref a1)] := fun t kt => pre2 t (st3 _ kt)
  have pre4 : PQ p e below m S0 T3 43 #[rv a1, iv 1, iv p3] [(.int ((p3 >>> ((0 : Int32) &&& 31)).toInt8.toInt32)), (.int 0), (.ref a1)] := by
    intro t kt
    refine pre3 t ?_
    refine XS.ishr X3.here hx rfl (hb hby d28_41) rfl ?_
    show SQ p e below m T3 42 #[rv a1, iv 1, iv p3] [(.int (p3 >>> ((0 : Int32) &&& 31))), (.int 0), (.ref a1)] _
    refine XS.i2b X3.here hx rfl (hb hby d28_42) rfl ?_
    exact kt
  obtain ⟨cl5, Ar5, q5, S5, M5, H5, G5⟩ := (id V_a1)
  have hin5 := inb_of (j := (0 : Int32)) S5 ⟨by decide, by decide⟩
  obtain ⟨T5, h5, X5, e5, W5, st5⟩ := stB X3 hx hZ e3 Ar5 (j := (0 : Int32)) hin5 (g := (mkF m 43 #[rv a1, iv 1, iv p3] [(.int ((p3 >>> ((0 : Int32) &&& 31)).toInt8.toInt32)), (.int 0), (.ref a1)])) rfl rfl (hb hby d28_43)
  have V_a1_5 := Arv.set Ar5 q5 S5 M5 H5 G5 (fits_nar_byte _) W5 0 rfl (Nat.le_of_ble_eq_true rfl)
  have N5 := Fr.snoc X5 N0 ge_a1
  have K5 := (Keep.refl h0 [a1]).wr W5 (Or.inl (List.mem_of_getElem? (i := 0) rfl))
  have Z5 := Nat.le_trans Z0 (Keep.of_wr W5).1
  have sA_7 := sA.wr W5
  have sH_8 := sH.wr W5
  have sL_9 := sL.wr W5
  have V_a1_5' : Arv Z h5 a1 kd .byte (4 : Int32) [(.int (nar .byte ((p3 >>> ((0 : Int32) &&& 31)).toInt8.toInt32))), (.int x1), (.int x2), (.int x3)] (.int 0) := V_a1_5
  have pre5 : PQ p e below m S0 T5 44 #[rv a1, iv 1, iv p3] [] := fun t kt => pre4 t (st5 _ kt)
  have pre10 : PQ p e below m S0 T5 47 #[rv a1, iv 1, iv p3] [(.int p3), (.int 1), (.ref a1)] := by
    intro t kt
    refine pre5 t ?_
    refine ow_aloadN X5.here hx hby d28_44 rfl rfl ?_
    refine ow_iloadN X5.here hx hby d28_45 rfl ?_
    refine ow_iloadN X5.here hx hby d28_46 rfl ?_
    exact kt
  obtain ⟨T11, X11, e11, st11⟩ := getS2 X5 hx hZ hown (host := "") (Or.inl (wi hw 134 rfl)) Via.refl e5 sL_9 (g := (mkF m 47 #[rv a1, iv 1, iv p3] [(.int p3), (.int 1), (.ref a1)])) rfl (hb hby d28_47)
  have pre11 : PQ p e below m S0 T11 50 #[rv a1, iv 1, iv p3] [(.int 8), (.int p3), (.int 1), (.ref a1)] := fun t kt => pre10 t (st11 _ kt)
  have pre12 : PQ p e below m S0 T11 52 #[rv a1, iv 1, iv p3] [(.int ((p3 >>> ((8 : Int32) &&& 31)).toInt8.toInt32)), (.int 1), (.ref a1)] := by
    intro t kt
    refine pre11 t ?_
    refine XS.ishr X11.here hx rfl (hb hby d28_50) rfl ?_
    show SQ p e below m T11 51 #[rv a1, iv 1, iv p3] [(.int (p3 >>> ((8 : Int32) &&& 31))), (.int 1), (.ref a1)] _
    refine XS.i2b X11.here hx rfl (hb hby d28_51) rfl ?_
    exact kt
  obtain ⟨cl13, Ar13, q13, S13, M13, H13, G13⟩ := (id V_a1_5')
  have hin13 := inb_of (j := (1 : Int32)) S13 ⟨by decide, by decide⟩
  obtain ⟨T13, h13, X13, e13, W13, st13⟩ := stB X11 hx hZ e11 Ar13 (j := (1 : Int32)) hin13 (g := (mkF m 52 #[rv a1, iv 1, iv p3] [(.int ((p3 >>> ((8 : Int32) &&& 31)).toInt8.toInt32)), (.int 1), (.ref a1)])) rfl rfl (hb hby d28_52)
  have V_a1_13 := Arv.set Ar13 q13 S13 M13 H13 G13 (fits_nar_byte _) W13 1 rfl (Nat.le_of_ble_eq_true rfl)
  have N13 := Fr.snoc X13 N5 ge_a1
  have K13 := K5.wr W13 (Or.inl (List.mem_of_getElem? (i := 0) rfl))
  have Z13 := Nat.le_trans Z5 (Keep.of_wr W13).1
  have sA_15 := sA_7.wr W13
  have sH_16 := sH_8.wr W13
  have sL_17 := sL_9.wr W13
  have V_a1_13' : Arv Z h13 a1 kd .byte (4 : Int32) [(.int (nar .byte ((p3 >>> ((0 : Int32) &&& 31)).toInt8.toInt32))), (.int (nar .byte ((p3 >>> ((8 : Int32) &&& 31)).toInt8.toInt32))), (.int x2), (.int x3)] (.int 0) := V_a1_13
  have pre13 : PQ p e below m S0 T13 53 #[rv a1, iv 1, iv p3] [] := fun t kt => pre12 t (st13 _ kt)
  obtain ⟨fs, hr, hu, hd, hW, hme⟩ := X13.leave (v := none) (fun _ => rfl)
  refine ⟨_, _, pre13 _ ?_, hu, hd, _, _, rfl, ?_, ⟨_, rfl⟩, hW, hme.mono (by decide) (by decide)⟩
  · show SQ p e below m T13 53 #[rv a1, iv 1, iv p3] [] _
    exact X13.returnOut hx Bd.returns (hb hby d28_53) hr
  · show Qrm28_20 Z a1 (0 : Int32) p3 kd x0 x1 x2 x3 h0 n0 _ T13.heap _
    rw [e13]
    exact ⟨rfl, N13, K13, V_a1_13'⟩
def Qrm29_20 (Z : State) (a1 : Addr) (p2 : Int32) (kd : ClassId) (x0 x1 : Int32) (x2 x3 : Int32) (h0 : Heap) (n0 : Nat) (v : Option Value) (h : Heap) (L : List Loc) : Prop := v = some (.int (own_pr x0 x1)) ∧ Fr n0 L ∧ h = h0

theorem rm29_20 (l : Launch) (Z : State) (a0 : Array Value) (hw : HW a0 Z) (ws : List Jvm.Cond) (a1 : Addr) (p2 : Int32) (kd : ClassId) (x0 x1 : Int32) (x2 x3 : Int32) (h0 : Heap) (n0 : Nat) (Z0 : n0 ≤ h0.size) (V_a1 : Arv Z h0 a1 kd .byte (4 : Int32) [(.int x0), (.int x1), (.int x2), (.int x3)] (.int 0)) (sA : sta0 Z h0 (.int 1)) (sH : sta1 Z h0 (.int 0)) (sL : sta2 Z h0 (.int 8)) (hp2 : p2 = (0 : Int32)) :
    MF l Z h0 mn6 kb7 2 (some .char) ws ro0 #[(.ref a1), (.int p2)] (Qrm29_20 Z a1 p2 kd x0 x1 x2 x3 h0 n0) := by
  refine own_go "java/lang/StringUTF16" rfl #[rv a1, iv p2] (fun m => ef_29 m a1 p2) (plainFor_of_name pn_2) ?_
  intro p e s m below meth c s₁ S0 Bd hx hby hml hown hZ X0 e0 pre0
  have N0 := Fr.nil n0
  subst hp2
  obtain ⟨T1, X1, e1, st1⟩ := getS2 X0 hx hZ hown (host := "") (Or.inl (wi hw 132 rfl)) Via.refl e0 sA (g := (mkF m 0 #[rv a1, iv 0] [])) rfl (hb hby d29_0)
  have pre1 : PQ p e below m S0 T1 3 #[rv a1, iv 0] [(.int 1)] := fun t kt => pre0 t (st1 _ kt)
  have pre3 : PQ p e below m S0 T1 42 #[rv a1, iv 1] [(.int (x0 &&& (255 : Int32)))] := by
    intro t kt
    refine pre1 t ?_
    refine ow_ifYes X1.here hx hby d29_3 ((if0 _ _).trans (feq (by decide)).2) (pc' := 28) (by decide) (by decide) ?_
    refine ow_iloadN X1.here hx hby d29_28 rfl ?_
    refine ow_iconst X1.here hx hby d29_29 (v := 1) rfl ?_
    refine XS.ishl X1.here hx rfl (hb hby d29_30) rfl ?_
    show SQ p e below m T1 31 #[rv a1, iv 0] [(.int 0)] _
    refine ow_istoreN X1.here hx hby d29_31 (l' := #[rv a1, iv 0]) rfl ?_
    refine ow_aloadN X1.here hx hby d29_32 rfl rfl ?_
    refine ow_iloadN X1.here hx hby d29_33 rfl ?_
    refine ow_iinc X1.here hx hby d29_34 rfl (l' := #[rv a1, iv 1]) rfl ?_
    show SQ p e below m T1 37 #[rv a1, iv 1] [(.int 0), (.ref a1)] _
    obtain ⟨cl2, Ar2, -, S2, M2, H2, -⟩ := (id V_a1)
    have hin2 := inb_of (j := (0 : Int32)) S2 ⟨by decide, by decide⟩
    refine X1.baloadBytes hx (j := (0 : Int32)) (v := (.int x0)) (by rw [e1]; exact Ar2.1) (State.isArrayOf_alike hZ.alike Ar2.2.1) Ar2.2.2 hin2 (H2.at hin2 rfl) (g := (mkF m 37 #[rv a1, iv 1] [(.int 0), (.ref a1)])) rfl rfl (hb hby d29_37) _ ?_
    show SQ p e below m T1 38 #[rv a1, iv 1] [(.int x0)] _
    refine ow_sipush X1.here hx hby d29_38 (v := 255) rfl ?_
    refine ow_iand X1.here hx hby d29_41 ?_
    exact kt
  obtain ⟨T4, X4, e4, st4⟩ := getS2 X1 hx hZ hown (host := "") (Or.inl (wi hw 133 rfl)) Via.refl e1 sH (g := (mkF m 42 #[rv a1, iv 1] [(.int (x0 &&& (255 : Int32)))])) rfl (hb hby d29_42)
  have pre4 : PQ p e below m S0 T4 45 #[rv a1, iv 1] [(.int 0), (.int (x0 &&& (255 : Int32)))] := fun t kt => pre3 t (st4 _ kt)
  have pre6 : PQ p e below m S0 T4 53 #[rv a1, iv 1] [(.int (x1 &&& (255 : Int32))), (.int ((x0 &&& (255 : Int32)) <<< ((0 : Int32) &&& 31)))] := by
    intro t kt
    refine pre4 t ?_
    refine XS.ishl X4.here hx rfl (hb hby d29_45) rfl ?_
    show SQ p e below m T4 46 #[rv a1, iv 1] [(.int ((x0 &&& (255 : Int32)) <<< ((0 : Int32) &&& 31)))] _
    refine ow_aloadN X4.here hx hby d29_46 rfl rfl ?_
    refine ow_iloadN X4.here hx hby d29_47 rfl ?_
    obtain ⟨cl5, Ar5, -, S5, M5, H5, -⟩ := (id V_a1)
    have hin5 := inb_of (j := (1 : Int32)) S5 ⟨by decide, by decide⟩
    refine X4.baloadBytes hx (j := (1 : Int32)) (v := (.int x1)) (by rw [e4]; exact Ar5.1) (State.isArrayOf_alike hZ.alike Ar5.2.1) Ar5.2.2 hin5 (H5.at hin5 rfl) (g := (mkF m 48 #[rv a1, iv 1] [(.int 1), (.ref a1), (.int ((x0 &&& (255 : Int32)) <<< ((0 : Int32) &&& 31)))])) rfl rfl (hb hby d29_48) _ ?_
    show SQ p e below m T4 49 #[rv a1, iv 1] [(.int x1), (.int ((x0 &&& (255 : Int32)) <<< ((0 : Int32) &&& 31)))] _
    refine ow_sipush X4.here hx hby d29_49 (v := 255) rfl ?_
    refine ow_iand X4.here hx hby d29_52 ?_
    exact kt
  obtain ⟨T7, X7, e7, st7⟩ := getS2 X4 hx hZ hown (host := "") (Or.inl (wi hw 134 rfl)) Via.refl e4 sL (g := (mkF m 53 #[rv a1, iv 1] [(.int (x1 &&& (255 : Int32))), (.int ((x0 &&& (255 : Int32)) <<< ((0 : Int32) &&& 31)))])) rfl (hb hby d29_53)
  have pre7 : PQ p e below m S0 T7 56 #[rv a1, iv 1] [(.int 8), (.int (x1 &&& (255 : Int32))), (.int ((x0 &&& (255 : Int32)) <<< ((0 : Int32) &&& 31)))] := fun t kt => pre6 t (st7 _ kt)
  have pre8 : PQ p e below m S0 T7 59 #[rv a1, iv 1] [(.int ((((x0 &&& (255 : Int32)) <<< ((0 : Int32) &&& 31)) ||| ((x1 &&& (255 : Int32)) <<< ((8 : Int32) &&& 31))).toUInt32.toUInt16.toUInt32.toInt32))] := by
    intro t kt
    refine pre7 t ?_
    refine XS.ishl X7.here hx rfl (hb hby d29_56) rfl ?_
    show SQ p e below m T7 57 #[rv a1, iv 1] [(.int ((x1 &&& (255 : Int32)) <<< ((8 : Int32) &&& 31))), (.int ((x0 &&& (255 : Int32)) <<< ((0 : Int32) &&& 31)))] _
    refine ow_ior X7.here hx hby d29_57 ?_
    refine XS.i2c X7.here hx rfl (hb hby d29_58) rfl ?_
    exact kt
  have hres : (nar .char ((((x0 &&& (255 : Int32)) <<< ((0 : Int32) &&& 31)) ||| ((x1 &&& (255 : Int32)) <<< ((8 : Int32) &&& 31))).toUInt32.toUInt16.toUInt32.toInt32)) = (own_pr x0 x1) := own_nc _
  obtain ⟨fs, hr, hu, hd, hW, hme⟩ := X7.leave (v := some (.int (nar .char ((((x0 &&& (255 : Int32)) <<< ((0 : Int32) &&& 31)) ||| ((x1 &&& (255 : Int32)) <<< ((8 : Int32) &&& 31))).toUInt32.toUInt16.toUInt32.toInt32)))) (fun h => by rw [Bd.returns] at h; cases h)
  refine ⟨_, _, pre8 _ ?_, hu, hd, _, _, rfl, ?_, ⟨_, rfl⟩, hW, hme.mono (by decide) (by decide)⟩
  · show SQ p e below m T7 59 #[rv a1, iv 1] [(.int ((((x0 &&& (255 : Int32)) <<< ((0 : Int32) &&& 31)) ||| ((x1 &&& (255 : Int32)) <<< ((8 : Int32) &&& 31))).toUInt32.toUInt16.toUInt32.toInt32))] _
    exact retN X7 hx (t := .char) Bd.returns (by simp) (hb hby d29_59) hr
  · show Qrm29_20 Z a1 (0 : Int32) kd x0 x1 x2 x3 h0 n0 _ T7.heap _
    rw [e7]
    exact ⟨congrArg some (congrArg Value.int hres), N0, rfl⟩
def Qrm28_21 (Z : State) (a1 : Addr) (p2 p3 : Int32) (kd : ClassId) (x0 x1 : Int32) (x2 x3 : Int32) (h0 : Heap) (n0 : Nat) (v : Option Value) (h : Heap) (L : List Loc) : Prop := v = none ∧ Fr n0 L ∧ Keep h0 h [a1] ∧ Arv Z h a1 kd .byte (4 : Int32) [(.int x0), (.int x1), (.int (own_lo p3)), (.int (own_hi p3))] (.int 0)

theorem rm28_21 (l : Launch) (Z : State) (a0 : Array Value) (hw : HW a0 Z) (ws : List Jvm.Cond) (a1 : Addr) (p2 p3 : Int32) (kd : ClassId) (x0 x1 : Int32) (x2 x3 : Int32) (h0 : Heap) (n0 : Nat) (Z0 : n0 ≤ h0.size) (V_a1 : Arv Z h0 a1 kd .byte (4 : Int32) [(.int x0), (.int x1), (.int x2), (.int x3)] (.int 0)) (sA : sta0 Z h0 (.int 1)) (sH : sta1 Z h0 (.int 0)) (sL : sta2 Z h0 (.int 8)) (ge_a1 : n0 ≤ a1) (hp2 : p2 = (1 : Int32)) :
    MF l Z h0 mn14 kb8 3 none ws ro0 #[(.ref a1), (.int p2), (.int p3)] (Qrm28_21 Z a1 p2 p3 kd x0 x1 x2 x3 h0 n0) := by
  refine own_go "java/lang/StringUTF16" rfl #[rv a1, iv p2, iv p3] (fun m => ef_28 m a1 p2 p3) (plainFor_of_name pn_2) ?_
  intro p e s m below meth c s₁ S0 Bd hx hby hml hown hZ X0 e0 pre0
  have N0 := Fr.nil n0
  subst hp2
  obtain ⟨T1, X1, e1, st1⟩ := getS2 X0 hx hZ hown (host := "") (Or.inl (wi hw 132 rfl)) Via.refl e0 sA (g := (mkF m 0 #[rv a1, iv 1, iv p3] [])) rfl (hb hby d28_0)
  have pre1 : PQ p e below m S0 T1 3 #[rv a1, iv 1, iv p3] [(.int 1)] := fun t kt => pre0 t (st1 _ kt)
  have pre2 : PQ p e below m S0 T1 38 #[rv a1, iv 3, iv p3] [(.int p3), (.int 2), (.ref a1)] := by
    intro t kt
    refine pre1 t ?_
    refine ow_ifYes X1.here hx hby d28_3 ((if0 _ _).trans (feq (by decide)).2) (pc' := 28) (by decide) (by decide) ?_
    refine ow_iloadN X1.here hx hby d28_28 rfl ?_
    refine ow_iconst X1.here hx hby d28_29 (v := 1) rfl ?_
    refine XS.ishl X1.here hx rfl (hb hby d28_30) rfl ?_
    show SQ p e below m T1 31 #[rv a1, iv 1, iv p3] [(.int 2)] _
    refine ow_istoreN X1.here hx hby d28_31 (l' := #[rv a1, iv 2, iv p3]) rfl ?_
    refine ow_aloadN X1.here hx hby d28_32 rfl rfl ?_
    refine ow_iloadN X1.here hx hby d28_33 rfl ?_
    refine ow_iinc X1.here hx hby d28_34 rfl (l' := #[rv a1, iv 3, iv p3]) rfl ?_
    show SQ p e below m T1 37 #[rv a1, iv 3, iv p3] [(.int 2), (.ref a1)] _
    refine ow_iloadN X1.here hx hby d28_37 rfl ?_
    exact kt
  obtain ⟨T3, X3, e3, st3⟩ := getS2 X1 hx hZ hown (host := "") (Or.inl (wi hw 133 rfl)) Via.refl e1 sH (g := (mkF m 38 #[rv a1, iv 3, iv p3] [(.int p3), (.int 2), (.ref a1)])) rfl (hb hby d28_38)
  have pre3 : PQ p e below m S0 T3 41 #[rv a1, iv 3, iv p3] [(.int 0), (.int p3), (.int 2), (.ref a1)] := fun t kt => pre2 t (st3 _ kt)
  have pre4 : PQ p e below m S0 T3 43 #[rv a1, iv 3, iv p3] [(.int ((p3 >>> ((0 : Int32) &&& 31)).toInt8.toInt32)), (.int 2), (.ref a1)] := by
    intro t kt
    refine pre3 t ?_
    refine XS.ishr X3.here hx rfl (hb hby d28_41) rfl ?_
    show SQ p e below m T3 42 #[rv a1, iv 3, iv p3] [(.int (p3 >>> ((0 : Int32) &&& 31))), (.int 2), (.ref a1)] _
    refine XS.i2b X3.here hx rfl (hb hby d28_42) rfl ?_
    exact kt
  obtain ⟨cl5, Ar5, q5, S5, M5, H5, G5⟩ := (id V_a1)
  have hin5 := inb_of (j := (2 : Int32)) S5 ⟨by decide, by decide⟩
  obtain ⟨T5, h5, X5, e5, W5, st5⟩ := stB X3 hx hZ e3 Ar5 (j := (2 : Int32)) hin5 (g := (mkF m 43 #[rv a1, iv 3, iv p3] [(.int ((p3 >>> ((0 : Int32) &&& 31)).toInt8.toInt32)), (.int 2), (.ref a1)])) rfl rfl (hb hby d28_43)
  have V_a1_5 := Arv.set Ar5 q5 S5 M5 H5 G5 (fits_nar_byte _) W5 2 rfl (Nat.le_of_ble_eq_true rfl)
  have N5 := Fr.snoc X5 N0 ge_a1
  have K5 := (Keep.refl h0 [a1]).wr W5 (Or.inl (List.mem_of_getElem? (i := 0) rfl))
  have Z5 := Nat.le_trans Z0 (Keep.of_wr W5).1
  have sA_7 := sA.wr W5
  have sH_8 := sH.wr W5
  have sL_9 := sL.wr W5
  have V_a1_5' : Arv Z h5 a1 kd .byte (4 : Int32) [(.int x0), (.int x1), (.int (nar .byte ((p3 >>> ((0 : Int32) &&& 31)).toInt8.toInt32))), (.int x3)] (.int 0) := V_a1_5
  have pre5 : PQ p e below m S0 T5 44 #[rv a1, iv 3, iv p3] [] := fun t kt => pre4 t (st5 _ kt)
  have pre10 : PQ p e below m S0 T5 47 #[rv a1, iv 3, iv p3] [(.int p3), (.int 3), (.ref a1)] := by
    intro t kt
    refine pre5 t ?_
    refine ow_aloadN X5.here hx hby d28_44 rfl rfl ?_
    refine ow_iloadN X5.here hx hby d28_45 rfl ?_
    refine ow_iloadN X5.here hx hby d28_46 rfl ?_
    exact kt
  obtain ⟨T11, X11, e11, st11⟩ := getS2 X5 hx hZ hown (host := "") (Or.inl (wi hw 134 rfl)) Via.refl e5 sL_9 (g := (mkF m 47 #[rv a1, iv 3, iv p3] [(.int p3), (.int 3), (.ref a1)])) rfl (hb hby d28_47)
  have pre11 : PQ p e below m S0 T11 50 #[rv a1, iv 3, iv p3] [(.int 8), (.int p3), (.int 3), (.ref a1)] := fun t kt => pre10 t (st11 _ kt)
  have pre12 : PQ p e below m S0 T11 52 #[rv a1, iv 3, iv p3] [(.int ((p3 >>> ((8 : Int32) &&& 31)).toInt8.toInt32)), (.int 3), (.ref a1)] := by
    intro t kt
    refine pre11 t ?_
    refine XS.ishr X11.here hx rfl (hb hby d28_50) rfl ?_
    show SQ p e below m T11 51 #[rv a1, iv 3, iv p3] [(.int (p3 >>> ((8 : Int32) &&& 31))), (.int 3), (.ref a1)] _
    refine XS.i2b X11.here hx rfl (hb hby d28_51) rfl ?_
    exact kt
  obtain ⟨cl13, Ar13, q13, S13, M13, H13, G13⟩ := (id V_a1_5')
  have hin13 := inb_of (j := (3 : Int32)) S13 ⟨by decide, by decide⟩
  obtain ⟨T13, h13, X13, e13, W13, st13⟩ := stB X11 hx hZ e11 Ar13 (j := (3 : Int32)) hin13 (g := (mkF m 52 #[rv a1, iv 3, iv p3] [(.int ((p3 >>> ((8 : Int32) &&& 31)).toInt8.toInt32)), (.int 3), (.ref a1)])) rfl rfl (hb hby d28_52)
  have V_a1_13 := Arv.set Ar13 q13 S13 M13 H13 G13 (fits_nar_byte _) W13 3 rfl (Nat.le_of_ble_eq_true rfl)
  have N13 := Fr.snoc X13 N5 ge_a1
  have K13 := K5.wr W13 (Or.inl (List.mem_of_getElem? (i := 0) rfl))
  have Z13 := Nat.le_trans Z5 (Keep.of_wr W13).1
  have sA_15 := sA_7.wr W13
  have sH_16 := sH_8.wr W13
  have sL_17 := sL_9.wr W13
  have V_a1_13' : Arv Z h13 a1 kd .byte (4 : Int32) [(.int x0), (.int x1), (.int (nar .byte ((p3 >>> ((0 : Int32) &&& 31)).toInt8.toInt32))), (.int (nar .byte ((p3 >>> ((8 : Int32) &&& 31)).toInt8.toInt32)))] (.int 0) := V_a1_13
  have pre13 : PQ p e below m S0 T13 53 #[rv a1, iv 3, iv p3] [] := fun t kt => pre12 t (st13 _ kt)
  obtain ⟨fs, hr, hu, hd, hW, hme⟩ := X13.leave (v := none) (fun _ => rfl)
  refine ⟨_, _, pre13 _ ?_, hu, hd, _, _, rfl, ?_, ⟨_, rfl⟩, hW, hme.mono (by decide) (by decide)⟩
  · show SQ p e below m T13 53 #[rv a1, iv 3, iv p3] [] _
    exact X13.returnOut hx Bd.returns (hb hby d28_53) hr
  · show Qrm28_21 Z a1 (1 : Int32) p3 kd x0 x1 x2 x3 h0 n0 _ T13.heap _
    rw [e13]
    exact ⟨rfl, N13, K13, V_a1_13'⟩
def Qrm29_21 (Z : State) (a1 : Addr) (p2 : Int32) (kd : ClassId) (x0 x1 : Int32) (x2 x3 : Int32) (h0 : Heap) (n0 : Nat) (v : Option Value) (h : Heap) (L : List Loc) : Prop := v = some (.int (own_pr x2 x3)) ∧ Fr n0 L ∧ h = h0

theorem rm29_21 (l : Launch) (Z : State) (a0 : Array Value) (hw : HW a0 Z) (ws : List Jvm.Cond) (a1 : Addr) (p2 : Int32) (kd : ClassId) (x0 x1 : Int32) (x2 x3 : Int32) (h0 : Heap) (n0 : Nat) (Z0 : n0 ≤ h0.size) (V_a1 : Arv Z h0 a1 kd .byte (4 : Int32) [(.int x0), (.int x1), (.int x2), (.int x3)] (.int 0)) (sA : sta0 Z h0 (.int 1)) (sH : sta1 Z h0 (.int 0)) (sL : sta2 Z h0 (.int 8)) (hp2 : p2 = (1 : Int32)) :
    MF l Z h0 mn6 kb7 2 (some .char) ws ro0 #[(.ref a1), (.int p2)] (Qrm29_21 Z a1 p2 kd x0 x1 x2 x3 h0 n0) := by
  refine own_go "java/lang/StringUTF16" rfl #[rv a1, iv p2] (fun m => ef_29 m a1 p2) (plainFor_of_name pn_2) ?_
  intro p e s m below meth c s₁ S0 Bd hx hby hml hown hZ X0 e0 pre0
  have N0 := Fr.nil n0
  subst hp2
  obtain ⟨T1, X1, e1, st1⟩ := getS2 X0 hx hZ hown (host := "") (Or.inl (wi hw 132 rfl)) Via.refl e0 sA (g := (mkF m 0 #[rv a1, iv 1] [])) rfl (hb hby d29_0)
  have pre1 : PQ p e below m S0 T1 3 #[rv a1, iv 1] [(.int 1)] := fun t kt => pre0 t (st1 _ kt)
  have pre3 : PQ p e below m S0 T1 42 #[rv a1, iv 3] [(.int (x2 &&& (255 : Int32)))] := by
    intro t kt
    refine pre1 t ?_
    refine ow_ifYes X1.here hx hby d29_3 ((if0 _ _).trans (feq (by decide)).2) (pc' := 28) (by decide) (by decide) ?_
    refine ow_iloadN X1.here hx hby d29_28 rfl ?_
    refine ow_iconst X1.here hx hby d29_29 (v := 1) rfl ?_
    refine XS.ishl X1.here hx rfl (hb hby d29_30) rfl ?_
    show SQ p e below m T1 31 #[rv a1, iv 1] [(.int 2)] _
    refine ow_istoreN X1.here hx hby d29_31 (l' := #[rv a1, iv 2]) rfl ?_
    refine ow_aloadN X1.here hx hby d29_32 rfl rfl ?_
    refine ow_iloadN X1.here hx hby d29_33 rfl ?_
    refine ow_iinc X1.here hx hby d29_34 rfl (l' := #[rv a1, iv 3]) rfl ?_
    show SQ p e below m T1 37 #[rv a1, iv 3] [(.int 2), (.ref a1)] _
    obtain ⟨cl2, Ar2, -, S2, M2, H2, -⟩ := (id V_a1)
    have hin2 := inb_of (j := (2 : Int32)) S2 ⟨by decide, by decide⟩
    refine X1.baloadBytes hx (j := (2 : Int32)) (v := (.int x2)) (by rw [e1]; exact Ar2.1) (State.isArrayOf_alike hZ.alike Ar2.2.1) Ar2.2.2 hin2 (H2.at hin2 rfl) (g := (mkF m 37 #[rv a1, iv 3] [(.int 2), (.ref a1)])) rfl rfl (hb hby d29_37) _ ?_
    show SQ p e below m T1 38 #[rv a1, iv 3] [(.int x2)] _
    refine ow_sipush X1.here hx hby d29_38 (v := 255) rfl ?_
    refine ow_iand X1.here hx hby d29_41 ?_
    exact kt
  obtain ⟨T4, X4, e4, st4⟩ := getS2 X1 hx hZ hown (host := "") (Or.inl (wi hw 133 rfl)) Via.refl e1 sH (g := (mkF m 42 #[rv a1, iv 3] [(.int (x2 &&& (255 : Int32)))])) rfl (hb hby d29_42)
  have pre4 : PQ p e below m S0 T4 45 #[rv a1, iv 3] [(.int 0), (.int (x2 &&& (255 : Int32)))] := fun t kt => pre3 t (st4 _ kt)
  have pre6 : PQ p e below m S0 T4 53 #[rv a1, iv 3] [(.int (x3 &&& (255 : Int32))), (.int ((x2 &&& (255 : Int32)) <<< ((0 : Int32) &&& 31)))] := by
    intro t kt
    refine pre4 t ?_
    refine XS.ishl X4.here hx rfl (hb hby d29_45) rfl ?_
    show SQ p e below m T4 46 #[rv a1, iv 3] [(.int ((x2 &&& (255 : Int32)) <<< ((0 : Int32) &&& 31)))] _
    refine ow_aloadN X4.here hx hby d29_46 rfl rfl ?_
    refine ow_iloadN X4.here hx hby d29_47 rfl ?_
    obtain ⟨cl5, Ar5, -, S5, M5, H5, -⟩ := (id V_a1)
    have hin5 := inb_of (j := (3 : Int32)) S5 ⟨by decide, by decide⟩
    refine X4.baloadBytes hx (j := (3 : Int32)) (v := (.int x3)) (by rw [e4]; exact Ar5.1) (State.isArrayOf_alike hZ.alike Ar5.2.1) Ar5.2.2 hin5 (H5.at hin5 rfl) (g := (mkF m 48 #[rv a1, iv 3] [(.int 3), (.ref a1), (.int ((x2 &&& (255 : Int32)) <<< ((0 : Int32) &&& 31)))])) rfl rfl (hb hby d29_48) _ ?_
    show SQ p e below m T4 49 #[rv a1, iv 3] [(.int x3), (.int ((x2 &&& (255 : Int32)) <<< ((0 : Int32) &&& 31)))] _
    refine ow_sipush X4.here hx hby d29_49 (v := 255) rfl ?_
    refine ow_iand X4.here hx hby d29_52 ?_
    exact kt
  obtain ⟨T7, X7, e7, st7⟩ := getS2 X4 hx hZ hown (host := "") (Or.inl (wi hw 134 rfl)) Via.refl e4 sL (g := (mkF m 53 #[rv a1, iv 3] [(.int (x3 &&& (255 : Int32))), (.int ((x2 &&& (255 : Int32)) <<< ((0 : Int32) &&& 31)))])) rfl (hb hby d29_53)
  have pre7 : PQ p e below m S0 T7 56 #[rv a1, iv 3] [(.int 8), (.int (x3 &&& (255 : Int32))), (.int ((x2 &&& (255 : Int32)) <<< ((0 : Int32) &&& 31)))] := fun t kt => pre6 t (st7 _ kt)
  have pre8 : PQ p e below m S0 T7 59 #[rv a1, iv 3] [(.int ((((x2 &&& (255 : Int32)) <<< ((0 : Int32) &&& 31)) ||| ((x3 &&& (255 : Int32)) <<< ((8 : Int32) &&& 31))).toUInt32.toUInt16.toUInt32.toInt32))] := by
    intro t kt
    refine pre7 t ?_
    refine XS.ishl X7.here hx rfl (hb hby d29_56) rfl ?_
    show SQ p e below m T7 57 #[rv a1, iv 3] [(.int ((x3 &&& (255 : Int32)) <<< ((8 : Int32) &&& 31))), (.int ((x2 &&& (255 : Int32)) <<< ((0 : Int32) &&& 31)))] _
    refine ow_ior X7.here hx hby d29_57 ?_
    refine XS.i2c X7.here hx rfl (hb hby d29_58) rfl ?_
    exact kt
  have hres : (nar .char ((((x2 &&& (255 : Int32)) <<< ((0 : Int32) &&& 31)) ||| ((x3 &&& (255 : Int32)) <<< ((8 : Int32) &&& 31))).toUInt32.toUInt16.toUInt32.toInt32)) = (own_pr x2 x3) := own_nc _
  obtain ⟨fs, hr, hu, hd, hW, hme⟩ := X7.leave (v := some (.int (nar .char ((((x2 &&& (255 : Int32)) <<< ((0 : Int32) &&& 31)) ||| ((x3 &&& (255 : Int32)) <<< ((8 : Int32) &&& 31))).toUInt32.toUInt16.toUInt32.toInt32)))) (fun h => by rw [Bd.returns] at h; cases h)
  refine ⟨_, _, pre8 _ ?_, hu, hd, _, _, rfl, ?_, ⟨_, rfl⟩, hW, hme.mono (by decide) (by decide)⟩
  · show SQ p e below m T7 59 #[rv a1, iv 3] [(.int ((((x2 &&& (255 : Int32)) <<< ((0 : Int32) &&& 31)) ||| ((x3 &&& (255 : Int32)) <<< ((8 : Int32) &&& 31))).toUInt32.toUInt16.toUInt32.toInt32))] _
    exact retN X7 hx (t := .char) Bd.returns (by simp) (hb hby d29_59) hr
  · show Qrm29_21 Z a1 (1 : Int32) kd x0 x1 x2 x3 h0 n0 _ T7.heap _
    rw [e7]
    exact ⟨congrArg some (congrArg Value.int hres), N0, rfl⟩
def Qrm33_1 (Z : State) (a1 : Addr) (kd : ClassId) (vs : List Value) (h0 : Heap) (n0 : Nat) (v : Option Value) (h : Heap) (L : List Loc) : Prop := v = some (.int 1) ∧ Fr n0 L ∧ h = h0
theorem d33_0 : decode kb41 0 = .ok (.aload_n 0, 1) := by decide +kernel
theorem d33_1 : decode kb41 1 = .ok (.arraylength, 1) := by decide +kernel
theorem d33_2 : decode kb41 2 = .ok (.iconst 1, 1) := by decide +kernel
theorem d33_3 : decode kb41 3 = .ok (.ishr, 1) := by decide +kernel
theorem d33_4 : decode kb41 4 = .ok (.ireturn, 1) := by decide +kernel
theorem ef_33 (m : MethodId) (x0 : Addr) : entryFrame m #[(.ref x0)] 1 = mkF m 0 #[rv x0] [] := by first | (simp [entryFrame, mkF, argsToLocals, Value.category]; done) | rfl
theorem rm33_1 (l : Launch) (Z : State) (a0 : Array Value) (hw : HW a0 Z) (ws : List Jvm.Cond) (a1 : Addr) (kd : ClassId) (vs : List Value) (h0 : Heap) (n0 : Nat) (Z0 : n0 ≤ h0.size) (V_a1 : Arv Z h0 a1 kd .byte (2 : Int32) vs (.int 0)) :
    MF l Z h0 mn12 kb41 1 (some .int) ws ro0 #[(.ref a1)] (Qrm33_1 Z a1 kd vs h0 n0) := by
  refine own_go "java/lang/StringUTF16" rfl #[rv a1] (fun m => ef_33 m a1) (plainFor_of_name pn_2) ?_
  intro p e s m below meth c s₁ S0 Bd hx hby hml hown hZ X0 e0 pre0
  have N0 := Fr.nil n0
  have pre2 : PQ p e below m S0 s₁ 4 #[rv a1] [(.int 1)] := by
    intro t kt
    refine pre0 t ?_
    refine ow_aloadN X0.here hx hby d33_0 rfl rfl ?_
    obtain ⟨cl1, Ar1, -, S1, M1, -, -⟩ := (id V_a1)
    refine X0.arraylength hx (by rw [e0]; exact Ar1.1) (State.isArrayOf_alike hZ.alike Ar1.2.1) (g := (mkF m 1 #[rv a1] [(.ref a1)])) rfl rfl (hb hby d33_1) _ ?_
    rw [len_of S1 M1]
    show SQ p e below m s₁ 2 #[rv a1] [(.int 2)] _
    refine ow_iconst X0.here hx hby d33_2 (v := 1) rfl ?_
    refine XS.ishr X0.here hx rfl (hb hby d33_3) rfl ?_
    exact kt
  obtain ⟨fs, hr, hu, hd, hW, hme⟩ := X0.leave (v := some (.int 1)) (fun h => by rw [Bd.returns] at h; cases h)
  refine ⟨_, _, pre2 _ ?_, hu, hd, _, _, rfl, ?_, ⟨_, rfl⟩, hW, hme.mono (by decide) (by decide)⟩
  · show SQ p e below m s₁ 4 #[rv a1] [(.int 1)] _
    exact retI X0 hx Bd.returns (hb hby d33_4) hr
  · show Qrm33_1 Z a1 kd vs h0 n0 _ s₁.heap _
    rw [e0]
    exact ⟨rfl, N0, rfl⟩
def Qrm33_2 (Z : State) (a1 : Addr) (kd : ClassId) (vs : List Value) (h0 : Heap) (n0 : Nat) (v : Option Value) (h : Heap) (L : List Loc) : Prop := v = some (.int 2) ∧ Fr n0 L ∧ h = h0

theorem rm33_2 (l : Launch) (Z : State) (a0 : Array Value) (hw : HW a0 Z) (ws : List Jvm.Cond) (a1 : Addr) (kd : ClassId) (vs : List Value) (h0 : Heap) (n0 : Nat) (Z0 : n0 ≤ h0.size) (V_a1 : Arv Z h0 a1 kd .byte (4 : Int32) vs (.int 0)) :
    MF l Z h0 mn12 kb41 1 (some .int) ws ro0 #[(.ref a1)] (Qrm33_2 Z a1 kd vs h0 n0) := by
  refine own_go "java/lang/StringUTF16" rfl #[rv a1] (fun m => ef_33 m a1) (plainFor_of_name pn_2) ?_
  intro p e s m below meth c s₁ S0 Bd hx hby hml hown hZ X0 e0 pre0
  have N0 := Fr.nil n0
  have pre2 : PQ p e below m S0 s₁ 4 #[rv a1] [(.int 2)] := by
    intro t kt
    refine pre0 t ?_
    refine ow_aloadN X0.here hx hby d33_0 rfl rfl ?_
    obtain ⟨cl1, Ar1, -, S1, M1, -, -⟩ := (id V_a1)
    refine X0.arraylength hx (by rw [e0]; exact Ar1.1) (State.isArrayOf_alike hZ.alike Ar1.2.1) (g := (mkF m 1 #[rv a1] [(.ref a1)])) rfl rfl (hb hby d33_1) _ ?_
    rw [len_of S1 M1]
    show SQ p e below m s₁ 2 #[rv a1] [(.int 4)] _
    refine ow_iconst X0.here hx hby d33_2 (v := 1) rfl ?_
    refine XS.ishr X0.here hx rfl (hb hby d33_3) rfl ?_
    exact kt
  obtain ⟨fs, hr, hu, hd, hW, hme⟩ := X0.leave (v := some (.int 2)) (fun h => by rw [Bd.returns] at h; cases h)
  refine ⟨_, _, pre2 _ ?_, hu, hd, _, _, rfl, ?_, ⟨_, rfl⟩, hW, hme.mono (by decide) (by decide)⟩
  · show SQ p e below m s₁ 4 #[rv a1] [(.int 2)] _
    exact retI X0 hx Bd.returns (hb hby d33_4) hr
  · show Qrm33_2 Z a1 kd vs h0 n0 _ s₁.heap _
    rw [e0]
    exact ⟨rfl, N0, rfl⟩
def Qrm18 (Z : State) (p1 p2 : Int32) (u3 : Value) (h0 : Heap) (n0 : Nat) (v : Option Value) (h : Heap) (L : List Loc) : Prop := v = some (.int p1) ∧ Fr n0 L ∧ h = h0
theorem d18_0 : decode kb37 0 = .ok (.iload_n 0, 1) := by decide +kernel
theorem d18_1 : decode kb37 1 = .ok (.ifCond .lt 8, 3) := by decide +kernel
theorem d18_4 : decode kb37 4 = .ok (.iload_n 0, 1) := by decide +kernel
theorem d18_5 : decode kb37 5 = .ok (.iload_n 1, 1) := by decide +kernel
theorem d18_6 : decode kb37 6 = .ok (.if_icmp .lt 10, 3) := by decide +kernel
theorem d18_16 : decode kb37 16 = .ok (.iload_n 0, 1) := by decide +kernel
theorem d18_17 : decode kb37 17 = .ok (.ireturn, 1) := by decide +kernel
theorem ef_18 (m : MethodId) (x0 x1 : Int32) {x2 : Value} (hx2 : x2.isRef = true) : entryFrame m #[(.int x0), (.int x1), x2] 3 = mkF m 0 #[iv x0, iv x1, .val x2] [] := by rcases ref_cases hx2 with rfl | ⟨_, rfl⟩ <;> first | (simp [entryFrame, mkF, argsToLocals, Value.category]; done) | rfl
theorem rm18 (l : Launch) (Z : State) (a0 : Array Value) (hw : HW a0 Z) (ws : List Jvm.Cond) (p1 p2 : Int32) (u3 : Value) (h0 : Heap) (n0 : Nat) (Z0 : n0 ≤ h0.size) (hu3 : u3.isRef = true) (h1 : ¬ p1 < (0 : Int32)) (h2 : p1 < p2) :
    MF l Z h0 (⟨"jdk/internal/util/Preconditions", "checkIndex", "(IILjava/util/function/BiFunction;)I"⟩ : MethodName) kb37 3 (some .int) ws ro0 #[(.int p1), (.int p2), u3] (Qrm18 Z p1 p2 u3 h0 n0) := by
  refine own_go "jdk/internal/util/Preconditions" rfl #[iv p1, iv p2, .val u3] (fun m => ef_18 m p1 p2 hu3) (plainFor_of_name pn_3) ?_
  intro p e s m below meth c s₁ S0 Bd hx hby hml hown hZ X0 e0 pre0
  have N0 := Fr.nil n0
  have pre1 : PQ p e below m S0 s₁ 17 #[iv p1, iv p2, .val u3] [(.int p1)] := by
    intro t kt
    refine pre0 t ?_
    refine ow_iloadN X0.here hx hby d18_0 rfl ?_
    refine ow_ifNo X0.here hx hby d18_1 ((if0 _ _).trans (flt h1).1) ?_
    refine ow_iloadN X0.here hx hby d18_4 rfl ?_
    refine ow_iloadN X0.here hx hby d18_5 rfl ?_
    refine ow_icmpYes X0.here hx hby d18_6 (tlt h2).1 (pc' := 16) (by decide) (by decide) ?_
    refine ow_iloadN X0.here hx hby d18_16 rfl ?_
    exact kt
  obtain ⟨fs, hr, hu, hd, hW, hme⟩ := X0.leave (v := some (.int p1)) (fun h => by rw [Bd.returns] at h; cases h)
  refine ⟨_, _, pre1 _ ?_, hu, hd, _, _, rfl, ?_, ⟨_, rfl⟩, hW, hme.mono (by decide) (by decide)⟩
  · show SQ p e below m s₁ 17 #[iv p1, iv p2, .val u3] [(.int p1)] _
    exact retI X0 hx Bd.returns (hb hby d18_17) hr
  · show Qrm18 Z p1 p2 u3 h0 n0 _ s₁.heap _
    rw [e0]
    exact ⟨rfl, N0, rfl⟩
def Qrm17 (Z : State) (p1 p2 : Int32) (fm : Value) (h0 : Heap) (n0 : Nat) (v : Option Value) (h : Heap) (L : List Loc) : Prop := v = none ∧ Fr n0 L ∧ h = h0
theorem d17_0 : decode kb42 0 = .ok (.iload_n 0, 1) := by decide +kernel
theorem d17_1 : decode kb42 1 = .ok (.iload_n 1, 1) := by decide +kernel
theorem d17_2 : decode kb42 2 = .ok (.getstatic 1053, 3) := by decide +kernel
theorem d17_5 : decode kb42 5 = .ok (.invokestatic 1059, 3) := by decide +kernel
theorem d17_8 : decode kb42 8 = .ok (.pop, 1) := by decide +kernel
theorem d17_9 : decode kb42 9 = .ok (.return_, 1) := by decide +kernel
theorem ef_17 (m : MethodId) (x0 x1 : Int32) : entryFrame m #[(.int x0), (.int x1)] 2 = mkF m 0 #[iv x0, iv x1] [] := by first | (simp [entryFrame, mkF, argsToLocals, Value.category]; done) | rfl
theorem rm17 (l : Launch) (Z : State) (a0 : Array Value) (hw : HW a0 Z) (ws : List Jvm.Cond) (p1 p2 : Int32) (fm : Value) (h0 : Heap) (n0 : Nat) (Z0 : n0 ≤ h0.size) (sF : sta3 Z h0 fm) (hFM : fm.isRef = true) (h1 : ¬ p1 < (0 : Int32)) (h2 : p1 < p2) :
    MF l Z h0 mn13 kb42 2 none ws ({ frames := 1, cells := 0, slots := 0, locals := 14 } : Room) #[(.int p1), (.int p2)] (Qrm17 Z p1 p2 fm h0 n0) := by
  refine own_go "java/lang/String" rfl #[iv p1, iv p2] (fun m => ef_17 m p1 p2) (plainFor_of_name pn_4) ?_
  intro p e s m below meth c s₁ S0 Bd hx hby hml hown hZ X0 e0 pre0
  have N0 := Fr.nil n0
  have pre1 : PQ p e below m S0 s₁ 2 #[iv p1, iv p2] [(.int p2), (.int p1)] := by
    intro t kt
    refine pre0 t ?_
    refine ow_iloadN X0.here hx hby d17_0 rfl ?_
    refine ow_iloadN X0.here hx hby d17_1 rfl ?_
    exact kt
  obtain ⟨T2, X2, e2, st2⟩ := getS2 X0 hx hZ hown (host := "") (Or.inl (wi hw 90 rfl)) Via.refl e0 sF (g := (mkF m 2 #[iv p1, iv p2] [(.int p2), (.int p1)])) rfl (hb hby d17_2)
  have pre2 : PQ p e below m S0 T2 5 #[iv p1, iv p2] [fm, (.int p2), (.int p1)] := fun t kt => pre1 t (st2 _ kt)
  obtain ⟨_, _, ⟨T3, L3, k3, n3⟩, -, X3, ⟨Lc3, hQ3, l3, y3, z3⟩, st3⟩ := Jvm.LawKit.callS X2 hx (y := (⟨"jdk/internal/util/Preconditions", "checkIndex", "(IILjava/util/function/BiFunction;)I"⟩ : MethodName)) hown (mw hZ hw 92 rfl) (mw hZ hw 93 rfl) (mw hZ hw 91 rfl) (mw hZ hw 94 rfl) (by decide) (backOf (W := 0) (rm18 l Z a0 hw [] p1 p2 fm h0 n0 Z0 (hFM) (h1) (h2)) hZ (wi hw 94 rfl) (wi hw 91 rfl) (by decide) (by decide)) (g := (mkF m 5 #[iv p1, iv p2] [fm, (.int p2), (.int p1)])) rfl (by rw [hml]; rfl) (argsL := [(.int p1), (.int p2), fm]) (rest := []) (lenOf pd_0 rfl) rfl (by show 2 * 0 + _ ≤ _; exact Nat.le_of_eq rfl) (hb hby d17_5) (fun _ _ => ⟨rfl, e2, (Nat.zero_le _), (Nat.zero_le _)⟩)
  dsimp only [Pt.U, Pt.locs, Pt.cells, Pt.slots] at X3 l3 y3 z3 st3 hQ3
  subst l3 y3 z3
  obtain ⟨rfl, N3q, e3⟩ := hQ3
  have N3 := Fr.app N0 N3q
  have pre3 : PQ p e below m S0 T3 8 #[iv p1, iv p2] [(.int p1)] := fun t kt => pre2 t (st3 _ kt)
  have pre4 : PQ p e below m S0 T3 9 #[iv p1, iv p2] [] := by
    intro t kt
    refine pre3 t ?_
    refine XS.pop X3.here hx rfl (hb hby d17_8) rfl rfl ?_
    exact kt
  obtain ⟨fs, hr, hu, hd, hW, hme⟩ := X3.leave (v := none) (fun _ => rfl)
  refine ⟨_, _, pre4 _ ?_, hu, hd, _, _, rfl, ?_, ⟨_, rfl⟩, hW, hme.mono (by decide) (by decide)⟩
  · show SQ p e below m T3 9 #[iv p1, iv p2] [] _
    exact X3.returnOut hx Bd.returns (hb hby d17_9) hr
  · show Qrm17 Z p1 p2 fm h0 n0 _ T3.heap _
    rw [e3]
    exact ⟨rfl, N3, rfl⟩
def Qrm32_10 (Z : State) (p1 : Int32) (a2 : Addr) (kd : ClassId) (vs : List Value) (fm : Value) (h0 : Heap) (n0 : Nat) (v : Option Value) (h : Heap) (L : List Loc) : Prop := v = none ∧ Fr n0 L ∧ h = h0
theorem d32_0 : decode kb38 0 = .ok (.iload_n 0, 1) := by decide +kernel
theorem d32_1 : decode kb38 1 = .ok (.aload_n 1, 1) := by decide +kernel
theorem d32_2 : decode kb38 2 = .ok (.invokestatic 48, 3) := by decide +kernel
theorem d32_5 : decode kb38 5 = .ok (.invokestatic 414, 3) := by decide +kernel
theorem d32_8 : decode kb38 8 = .ok (.return_, 1) := by decide +kernel
theorem ef_32 (m : MethodId) (x0 : Int32) (x1 : Addr) : entryFrame m #[(.int x0), (.ref x1)] 2 = mkF m 0 #[iv x0, rv x1] [] := by first | (simp [entryFrame, mkF, argsToLocals, Value.category]; done) | rfl
theorem rm32_10 (l : Launch) (Z : State) (a0 : Array Value) (hw : HW a0 Z) (ws : List Jvm.Cond) (p1 : Int32) (a2 : Addr) (kd : ClassId) (vs : List Value) (fm : Value) (h0 : Heap) (n0 : Nat) (Z0 : n0 ≤ h0.size) (V_a2 : Arv Z h0 a2 kd .byte (2 : Int32) vs (.int 0)) (sF : sta3 Z h0 fm) (hFM : fm.isRef = true) (hp1 : p1 = (0 : Int32)) :
    MF l Z h0 mn15 kb38 2 none ws ro3 #[(.int p1), (.ref a2)] (Qrm32_10 Z p1 a2 kd vs fm h0 n0) := by
  refine own_go "java/lang/StringUTF16" rfl #[iv p1, rv a2] (fun m => ef_32 m p1 a2) (plainFor_of_name pn_2) ?_
  intro p e s m below meth c s₁ S0 Bd hx hby hml hown hZ X0 e0 pre0
  have N0 := Fr.nil n0
  subst hp1
  have pre1 : PQ p e below m S0 s₁ 2 #[iv 0, rv a2] [(.ref a2), (.int 0)] := by
    intro t kt
    refine pre0 t ?_
    refine ow_iloadN X0.here hx hby d32_0 rfl ?_
    refine ow_aloadN X0.here hx hby d32_1 rfl rfl ?_
    exact kt
  obtain ⟨_, _, ⟨T2, L2, k2, n2⟩, -, X2, ⟨Lc2, hQ2, l2, y2, z2⟩, st2⟩ := Jvm.LawKit.callS X0 hx (y := mn12) hown (mw hZ hw 147 rfl) (mw hZ hw 148 rfl) (mw hZ hw 114 rfl) (mw hZ hw 149 rfl) (by decide) (backOf (W := 1) (rm33_1 l Z a0 hw [] a2 kd vs h0 n0 Z0 V_a2) hZ (wi hw 149 rfl) (wi hw 114 rfl) (by decide) (by decide)) (g := (mkF m 2 #[iv 0, rv a2] [(.ref a2), (.int 0)])) rfl (by rw [hml]; rfl) (argsL := [(.ref a2)]) (rest := [(.int 0)]) (lenOf pd_1 rfl) rfl (by show 2 * 0 + _ ≤ _; exact Nat.le_of_eq rfl) (hb hby d32_2) (fun _ _ => ⟨rfl, e0, (Nat.zero_le _), (Nat.zero_le _)⟩)
  dsimp only [Pt.U, Pt.locs, Pt.cells, Pt.slots] at X2 l2 y2 z2 st2 hQ2
  subst l2 y2 z2
  obtain ⟨rfl, N2q, e2⟩ := hQ2
  have N2 := Fr.app N0 N2q
  have pre2 : PQ p e below m S0 T2 5 #[iv 0, rv a2] [(.int 1), (.int 0)] := fun t kt => pre1 t (st2 _ kt)
  obtain ⟨_, _, ⟨T3, L3, k3, n3⟩, -, X3, ⟨Lc3, hQ3, l3, y3, z3⟩, st3⟩ := Jvm.LawKit.callS X2 hx (y := mn13) hown (mw hZ hw 150 rfl) (mw hZ hw 88 rfl) (mw hZ hw 5 rfl) (mw hZ hw 89 rfl) (by decide) (backOf (W := 0) (rm17 l Z a0 hw [] (0 : Int32) (1 : Int32) fm h0 n0 Z0 sF (hFM) (by decide) (by decide)) hZ (wi hw 89 rfl) (wi hw 5 rfl) (by decide) (by decide)) (g := (mkF m 5 #[iv 0, rv a2] [(.int 1), (.int 0)])) rfl (by rw [hml]; rfl) (argsL := [(.int 0), (.int 1)]) (rest := []) (lenOf pd_2 rfl) rfl (by show 2 * 0 + _ ≤ _; exact Nat.le_of_eq rfl) (hb hby d32_5) (fun _ _ => ⟨rfl, e2, (Nat.zero_le _), (Nat.zero_le _)⟩)
  dsimp only [Pt.U, Pt.locs, Pt.cells, Pt.slots] at X3 l3 y3 z3 st3 hQ3
  subst l3 y3 z3
  obtain ⟨rfl, N3q, e3⟩ := hQ3
  have N3 := Fr.app N2 N3q
  have pre3 : PQ p e below m S0 T3 8 #[iv 0, rv a2] [] := fun t kt => pre2 t (st3 _ kt)
  obtain ⟨fs, hr, hu, hd, hW, hme⟩ := X3.leave (v := none) (fun _ => rfl)
  refine ⟨_, _, pre3 _ ?_, hu, hd, _, _, rfl, ?_, ⟨_, rfl⟩, hW, hme.mono (by decide) (by decide)⟩
  · show SQ p e below m T3 8 #[iv 0, rv a2] [] _
    exact X3.returnOut hx Bd.returns (hb hby d32_8) hr
  · show Qrm32_10 Z (0 : Int32) a2 kd vs fm h0 n0 _ T3.heap _
    rw [e3]
    exact ⟨rfl, N3, rfl⟩
def Qrm32_20 (Z : State) (p1 : Int32) (a2 : Addr) (kd : ClassId) (vs : List Value) (fm : Value) (h0 : Heap) (n0 : Nat) (v : Option Value) (h : Heap) (L : List Loc) : Prop := v = none ∧ Fr n0 L ∧ h = h0

theorem rm32_20 (l : Launch) (Z : State) (a0 : Array Value) (hw : HW a0 Z) (ws : List Jvm.Cond) (p1 : Int32) (a2 : Addr) (kd : ClassId) (vs : List Value) (fm : Value) (h0 : Heap) (n0 : Nat) (Z0 : n0 ≤ h0.size) (V_a2 : Arv Z h0 a2 kd .byte (4 : Int32) vs (.int 0)) (sF : sta3 Z h0 fm) (hFM : fm.isRef = true) (hp1 : p1 = (0 : Int32)) :
    MF l Z h0 mn15 kb38 2 none ws ro3 #[(.int p1), (.ref a2)] (Qrm32_20 Z p1 a2 kd vs fm h0 n0) := by
  refine own_go "java/lang/StringUTF16" rfl #[iv p1, rv a2] (fun m => ef_32 m p1 a2) (plainFor_of_name pn_2) ?_
  intro p e s m below meth c s₁ S0 Bd hx hby hml hown hZ X0 e0 pre0
  have N0 := Fr.nil n0
  subst hp1
  have pre1 : PQ p e below m S0 s₁ 2 #[iv 0, rv a2] [(.ref a2), (.int 0)] := by
    intro t kt
    refine pre0 t ?_
    refine ow_iloadN X0.here hx hby d32_0 rfl ?_
    refine ow_aloadN X0.here hx hby d32_1 rfl rfl ?_
    exact kt
  obtain ⟨_, _, ⟨T2, L2, k2, n2⟩, -, X2, ⟨Lc2, hQ2, l2, y2, z2⟩, st2⟩ := Jvm.LawKit.callS X0 hx (y := mn12) hown (mw hZ hw 147 rfl) (mw hZ hw 148 rfl) (mw hZ hw 114 rfl) (mw hZ hw 149 rfl) (by decide) (backOf (W := 1) (rm33_2 l Z a0 hw [] a2 kd vs h0 n0 Z0 V_a2) hZ (wi hw 149 rfl) (wi hw 114 rfl) (by decide) (by decide)) (g := (mkF m 2 #[iv 0, rv a2] [(.ref a2), (.int 0)])) rfl (by rw [hml]; rfl) (argsL := [(.ref a2)]) (rest := [(.int 0)]) (lenOf pd_1 rfl) rfl (by show 2 * 0 + _ ≤ _; exact Nat.le_of_eq rfl) (hb hby d32_2) (fun _ _ => ⟨rfl, e0, (Nat.zero_le _), (Nat.zero_le _)⟩)
  dsimp only [Pt.U, Pt.locs, Pt.cells, Pt.slots] at X2 l2 y2 z2 st2 hQ2
  subst l2 y2 z2
  obtain ⟨rfl, N2q, e2⟩ := hQ2
  have N2 := Fr.app N0 N2q
  have pre2 : PQ p e below m S0 T2 5 #[iv 0, rv a2] [(.int 2), (.int 0)] := fun t kt => pre1 t (st2 _ kt)
  obtain ⟨_, _, ⟨T3, L3, k3, n3⟩, -, X3, ⟨Lc3, hQ3, l3, y3, z3⟩, st3⟩ := Jvm.LawKit.callS X2 hx (y := mn13) hown (mw hZ hw 150 rfl) (mw hZ hw 88 rfl) (mw hZ hw 5 rfl) (mw hZ hw 89 rfl) (by decide) (backOf (W := 0) (rm17 l Z a0 hw [] (0 : Int32) (2 : Int32) fm h0 n0 Z0 sF (hFM) (by decide) (by decide)) hZ (wi hw 89 rfl) (wi hw 5 rfl) (by decide) (by decide)) (g := (mkF m 5 #[iv 0, rv a2] [(.int 2), (.int 0)])) rfl (by rw [hml]; rfl) (argsL := [(.int 0), (.int 2)]) (rest := []) (lenOf pd_2 rfl) rfl (by show 2 * 0 + _ ≤ _; exact Nat.le_of_eq rfl) (hb hby d32_5) (fun _ _ => ⟨rfl, e2, (Nat.zero_le _), (Nat.zero_le _)⟩)
  dsimp only [Pt.U, Pt.locs, Pt.cells, Pt.slots] at X3 l3 y3 z3 st3 hQ3
  subst l3 y3 z3
  obtain ⟨rfl, N3q, e3⟩ := hQ3
  have N3 := Fr.app N2 N3q
  have pre3 : PQ p e below m S0 T3 8 #[iv 0, rv a2] [] := fun t kt => pre2 t (st3 _ kt)
  obtain ⟨fs, hr, hu, hd, hW, hme⟩ := X3.leave (v := none) (fun _ => rfl)
  refine ⟨_, _, pre3 _ ?_, hu, hd, _, _, rfl, ?_, ⟨_, rfl⟩, hW, hme.mono (by decide) (by decide)⟩
  · show SQ p e below m T3 8 #[iv 0, rv a2] [] _
    exact X3.returnOut hx Bd.returns (hb hby d32_8) hr
  · show Qrm32_20 Z (0 : Int32) a2 kd vs fm h0 n0 _ T3.heap _
    rw [e3]
    exact ⟨rfl, N3, rfl⟩
def Qrm32_21 (Z : State) (p1 : Int32) (a2 : Addr) (kd : ClassId) (vs : List Value) (fm : Value) (h0 : Heap) (n0 : Nat) (v : Option Value) (h : Heap) (L : List Loc) : Prop := v = none ∧ Fr n0 L ∧ h = h0

theorem rm32_21 (l : Launch) (Z : State) (a0 : Array Value) (hw : HW a0 Z) (ws : List Jvm.Cond) (p1 : Int32) (a2 : Addr) (kd : ClassId) (vs : List Value) (fm : Value) (h0 : Heap) (n0 : Nat) (Z0 : n0 ≤ h0.size) (V_a2 : Arv Z h0 a2 kd .byte (4 : Int32) vs (.int 0)) (sF : sta3 Z h0 fm) (hFM : fm.isRef = true) (hp1 : p1 = (1 : Int32)) :
    MF l Z h0 mn15 kb38 2 none ws ro3 #[(.int p1), (.ref a2)] (Qrm32_21 Z p1 a2 kd vs fm h0 n0) := by
  refine own_go "java/lang/StringUTF16" rfl #[iv p1, rv a2] (fun m => ef_32 m p1 a2) (plainFor_of_name pn_2) ?_
  intro p e s m below meth c s₁ S0 Bd hx hby hml hown hZ X0 e0 pre0
  have N0 := Fr.nil n0
  subst hp1
  have pre1 : PQ p e below m S0 s₁ 2 #[iv 1, rv a2] [(.ref a2), (.int 1)] := by
    intro t kt
    refine pre0 t ?_
    refine ow_iloadN X0.here hx hby d32_0 rfl ?_
    refine ow_aloadN X0.here hx hby d32_1 rfl rfl ?_
    exact kt
  obtain ⟨_, _, ⟨T2, L2, k2, n2⟩, -, X2, ⟨Lc2, hQ2, l2, y2, z2⟩, st2⟩ := Jvm.LawKit.callS X0 hx (y := mn12) hown (mw hZ hw 147 rfl) (mw hZ hw 148 rfl) (mw hZ hw 114 rfl) (mw hZ hw 149 rfl) (by decide) (backOf (W := 1) (rm33_2 l Z a0 hw [] a2 kd vs h0 n0 Z0 V_a2) hZ (wi hw 149 rfl) (wi hw 114 rfl) (by decide) (by decide)) (g := (mkF m 2 #[iv 1, rv a2] [(.ref a2), (.int 1)])) rfl (by rw [hml]; rfl) (argsL := [(.ref a2)]) (rest := [(.int 1)]) (lenOf pd_1 rfl) rfl (by show 2 * 0 + _ ≤ _; exact Nat.le_of_eq rfl) (hb hby d32_2) (fun _ _ => ⟨rfl, e0, (Nat.zero_le _), (Nat.zero_le _)⟩)
  dsimp only [Pt.U, Pt.locs, Pt.cells, Pt.slots] at X2 l2 y2 z2 st2 hQ2
  subst l2 y2 z2
  obtain ⟨rfl, N2q, e2⟩ := hQ2
  have N2 := Fr.app N0 N2q
  have pre2 : PQ p e below m S0 T2 5 #[iv 1, rv a2] [(.int 2), (.int 1)] := fun t kt => pre1 t (st2 _ kt)
  obtain ⟨_, _, ⟨T3, L3, k3, n3⟩, -, X3, ⟨Lc3, hQ3, l3, y3, z3⟩, st3⟩ := Jvm.LawKit.callS X2 hx (y := mn13) hown (mw hZ hw 150 rfl) (mw hZ hw 88 rfl) (mw hZ hw 5 rfl) (mw hZ hw 89 rfl) (by decide) (backOf (W := 0) (rm17 l Z a0 hw [] (1 : Int32) (2 : Int32) fm h0 n0 Z0 sF (hFM) (by decide) (by decide)) hZ (wi hw 89 rfl) (wi hw 5 rfl) (by decide) (by decide)) (g := (mkF m 5 #[iv 1, rv a2] [(.int 2), (.int 1)])) rfl (by rw [hml]; rfl) (argsL := [(.int 1), (.int 2)]) (rest := []) (lenOf pd_2 rfl) rfl (by show 2 * 0 + _ ≤ _; exact Nat.le_of_eq rfl) (hb hby d32_5) (fun _ _ => ⟨rfl, e2, (Nat.zero_le _), (Nat.zero_le _)⟩)
  dsimp only [Pt.U, Pt.locs, Pt.cells, Pt.slots] at X3 l3 y3 z3 st3 hQ3
  subst l3 y3 z3
  obtain ⟨rfl, N3q, e3⟩ := hQ3
  have N3 := Fr.app N2 N3q
  have pre3 : PQ p e below m S0 T3 8 #[iv 1, rv a2] [] := fun t kt => pre2 t (st3 _ kt)
  obtain ⟨fs, hr, hu, hd, hW, hme⟩ := X3.leave (v := none) (fun _ => rfl)
  refine ⟨_, _, pre3 _ ?_, hu, hd, _, _, rfl, ?_, ⟨_, rfl⟩, hW, hme.mono (by decide) (by decide)⟩
  · show SQ p e below m T3 8 #[iv 1, rv a2] [] _
    exact X3.returnOut hx Bd.returns (hb hby d32_8) hr
  · show Qrm32_21 Z (1 : Int32) a2 kd vs fm h0 n0 _ T3.heap _
    rw [e3]
    exact ⟨rfl, N3, rfl⟩
def Qrm31_10 (Z : State) (a1 : Addr) (p2 : Int32) (kd : ClassId) (x0 x1 : Int32) (fm : Value) (h0 : Heap) (n0 : Nat) (v : Option Value) (h : Heap) (L : List Loc) : Prop := v = some (.int (own_pr x0 x1)) ∧ Fr n0 L ∧ h = h0
theorem d31_0 : decode kb27 0 = .ok (.iload_n 1, 1) := by decide +kernel
theorem d31_1 : decode kb27 1 = .ok (.aload_n 0, 1) := by decide +kernel
theorem d31_2 : decode kb27 2 = .ok (.invokestatic 67, 3) := by decide +kernel
theorem d31_5 : decode kb27 5 = .ok (.aload_n 0, 1) := by decide +kernel
theorem d31_6 : decode kb27 6 = .ok (.iload_n 1, 1) := by decide +kernel
theorem d31_7 : decode kb27 7 = .ok (.invokestatic 71, 3) := by decide +kernel
theorem d31_10 : decode kb27 10 = .ok (.ireturn, 1) := by decide +kernel
theorem ef_31 (m : MethodId) (x0 : Addr) (x1 : Int32) : entryFrame m #[(.ref x0), (.int x1)] 2 = mkF m 0 #[rv x0, iv x1] [] := by first | (simp [entryFrame, mkF, argsToLocals, Value.category]; done) | rfl
theorem rm31_10 (l : Launch) (Z : State) (a0 : Array Value) (hw : HW a0 Z) (ws : List Jvm.Cond) (a1 : Addr) (p2 : Int32) (kd : ClassId) (x0 x1 : Int32) (fm : Value) (h0 : Heap) (n0 : Nat) (Z0 : n0 ≤ h0.size) (V_a1 : Arv Z h0 a1 kd .byte (2 : Int32) [(.int x0), (.int x1)] (.int 0)) (sF : sta3 Z h0 fm) (sA : sta0 Z h0 (.int 1)) (sH : sta1 Z h0 (.int 0)) (sL : sta2 Z h0 (.int 8)) (hFM : fm.isRef = true) (hp2 : p2 = (0 : Int32)) :
    MF l Z h0 mn16 kb27 2 (some .char) ws ro6 #[(.ref a1), (.int p2)] (Qrm31_10 Z a1 p2 kd x0 x1 fm h0 n0) := by
  refine own_go "java/lang/StringUTF16" rfl #[rv a1, iv p2] (fun m => ef_31 m a1 p2) (plainFor_of_name pn_2) ?_
  intro p e s m below meth c s₁ S0 Bd hx hby hml hown hZ X0 e0 pre0
  have N0 := Fr.nil n0
  subst hp2
  have pre1 : PQ p e below m S0 s₁ 2 #[rv a1, iv 0] [(.ref a1), (.int 0)] := by
    intro t kt
    refine pre0 t ?_
    refine ow_iloadN X0.here hx hby d31_0 rfl ?_
    refine ow_aloadN X0.here hx hby d31_1 rfl rfl ?_
    exact kt
  obtain ⟨_, _, ⟨T2, L2, k2, n2⟩, -, X2, ⟨Lc2, hQ2, l2, y2, z2⟩, st2⟩ := Jvm.LawKit.callS X0 hx (y := mn15) hown (mw hZ hw 144 rfl) (mw hZ hw 145 rfl) (mw hZ hw 114 rfl) (mw hZ hw 146 rfl) (by decide) (backOf (W := 0) (rm32_10 l Z a0 hw [] (0 : Int32) a1 kd [(.int x0), (.int x1)] fm h0 n0 Z0 V_a1 sF (hFM) (rfl)) hZ (wi hw 146 rfl) (wi hw 114 rfl) (by decide) (by decide)) (g := (mkF m 2 #[rv a1, iv 0] [(.ref a1), (.int 0)])) rfl (by rw [hml]; rfl) (argsL := [(.int 0), (.ref a1)]) (rest := []) (lenOf pd_3 rfl) rfl (by show 2 * 0 + _ ≤ _; exact Nat.le_of_eq rfl) (hb hby d31_2) (fun _ _ => ⟨rfl, e0, (Nat.zero_le _), (Nat.zero_le _)⟩)
  dsimp only [Pt.U, Pt.locs, Pt.cells, Pt.slots] at X2 l2 y2 z2 st2 hQ2
  subst l2 y2 z2
  obtain ⟨rfl, N2q, e2⟩ := hQ2
  have N2 := Fr.app N0 N2q
  have pre2 : PQ p e below m S0 T2 5 #[rv a1, iv 0] [] := fun t kt => pre1 t (st2 _ kt)
  have pre3 : PQ p e below m S0 T2 7 #[rv a1, iv 0] [(.int 0), (.ref a1)] := by
    intro t kt
    refine pre2 t ?_
    refine ow_aloadN X2.here hx hby d31_5 rfl rfl ?_
    refine ow_iloadN X2.here hx hby d31_6 rfl ?_
    exact kt
  obtain ⟨_, _, ⟨T4, L4, k4, n4⟩, -, X4, ⟨Lc4, hQ4, l4, y4, z4⟩, st4⟩ := Jvm.LawKit.callS X2 hx (y := mn6) hown (mw hZ hw 135 rfl) (mw hZ hw 136 rfl) (mw hZ hw 114 rfl) (mw hZ hw 137 rfl) (by decide) (backOf (W := 0) (rm29_10 l Z a0 hw [] a1 (0 : Int32) kd x0 x1 h0 n0 Z0 V_a1 sA sH sL (rfl)) hZ (wi hw 137 rfl) (wi hw 114 rfl) (by decide) (by decide)) (g := (mkF m 7 #[rv a1, iv 0] [(.int 0), (.ref a1)])) rfl (by rw [hml]; rfl) (argsL := [(.ref a1), (.int 0)]) (rest := []) (lenOf pd_4 rfl) rfl (by show 2 * 0 + _ ≤ _; exact Nat.le_of_eq rfl) (hb hby d31_7) (fun _ _ => ⟨rfl, e2, (Nat.zero_le _), (Nat.zero_le _)⟩)
  dsimp only [Pt.U, Pt.locs, Pt.cells, Pt.slots] at X4 l4 y4 z4 st4 hQ4
  subst l4 y4 z4
  obtain ⟨rfl, N4q, e4⟩ := hQ4
  have N4 := Fr.app N2 N4q
  have pre4 : PQ p e below m S0 T4 10 #[rv a1, iv 0] [(.int (own_pr x0 x1))] := fun t kt => pre3 t (st4 _ kt)
  have hres : (nar .char (own_pr x0 x1)) = (own_pr x0 x1) := own_nc _
  obtain ⟨fs, hr, hu, hd, hW, hme⟩ := X4.leave (v := some (.int (nar .char (own_pr x0 x1)))) (fun h => by rw [Bd.returns] at h; cases h)
  refine ⟨_, _, pre4 _ ?_, hu, hd, _, _, rfl, ?_, ⟨_, rfl⟩, hW, hme.mono (by decide) (by decide)⟩
  · show SQ p e below m T4 10 #[rv a1, iv 0] [(.int (own_pr x0 x1))] _
    exact retN X4 hx (t := .char) Bd.returns (by simp) (hb hby d31_10) hr
  · show Qrm31_10 Z a1 (0 : Int32) kd x0 x1 fm h0 n0 _ T4.heap _
    rw [e4]
    exact ⟨congrArg some (congrArg Value.int hres), N4, rfl⟩
def Qrm31_20 (Z : State) (a1 : Addr) (p2 : Int32) (kd : ClassId) (x0 x1 : Int32) (x2 x3 : Int32) (fm : Value) (h0 : Heap) (n0 : Nat) (v : Option Value) (h : Heap) (L : List Loc) : Prop := v = some (.int (own_pr x0 x1)) ∧ Fr n0 L ∧ h = h0

theorem rm31_20 (l : Launch) (Z : State) (a0 : Array Value) (hw : HW a0 Z) (ws : List Jvm.Cond) (a1 : Addr) (p2 : Int32) (kd : ClassId) (x0 x1 : Int32) (x2 x3 : Int32) (fm : Value) (h0 : Heap) (n0 : Nat) (Z0 : n0 ≤ h0.size) (V_a1 : Arv Z h0 a1 kd .byte (4 : Int32) [(.int x0), (.int x1), (.int x2), (.int x3)] (.int 0)) (sF : sta3 Z h0 fm) (sA : sta0 Z h0 (.int 1)) (sH : sta1 Z h0 (.int 0)) (sL : sta2 Z h0 (.int 8)) (hFM : fm.isRef = true) (hp2 : p2 = (0 : Int32)) :
    MF l Z h0 mn16 kb27 2 (some .char) ws ro6 #[(.ref a1), (.int p2)] (Qrm31_20 Z a1 p2 kd x0 x1 x2 x3 fm h0 n0) := by
  refine own_go "java/lang/StringUTF16" rfl #[rv a1, iv p2] (fun m => ef_31 m a1 p2) (plainFor_of_name pn_2) ?_
  intro p e s m below meth c s₁ S0 Bd hx hby hml hown hZ X0 e0 pre0
  have N0 := Fr.nil n0
  subst hp2
  have pre1 : PQ p e below m S0 s₁ 2 #[rv a1, iv 0] [(.ref a1), (.int 0)] := by
    intro t kt
    refine pre0 t ?_
    refine ow_iloadN X0.here hx hby d31_0 rfl ?_
    refine ow_aloadN X0.here hx hby d31_1 rfl rfl ?_
    exact kt
  obtain ⟨_, _, ⟨T2, L2, k2, n2⟩, -, X2, ⟨Lc2, hQ2, l2, y2, z2⟩, st2⟩ := Jvm.LawKit.callS X0 hx (y := mn15) hown (mw hZ hw 144 rfl) (mw hZ hw 145 rfl) (mw hZ hw 114 rfl) (mw hZ hw 146 rfl) (by decide) (backOf (W := 0) (rm32_20 l Z a0 hw [] (0 : Int32) a1 kd [(.int x0), (.int x1), (.int x2), (.int x3)] fm h0 n0 Z0 V_a1 sF (hFM) (rfl)) hZ (wi hw 146 rfl) (wi hw 114 rfl) (by decide) (by decide)) (g := (mkF m 2 #[rv a1, iv 0] [(.ref a1), (.int 0)])) rfl (by rw [hml]; rfl) (argsL := [(.int 0), (.ref a1)]) (rest := []) (lenOf pd_3 rfl) rfl (by show 2 * 0 + _ ≤ _; exact Nat.le_of_eq rfl) (hb hby d31_2) (fun _ _ => ⟨rfl, e0, (Nat.zero_le _), (Nat.zero_le _)⟩)
  dsimp only [Pt.U, Pt.locs, Pt.cells, Pt.slots] at X2 l2 y2 z2 st2 hQ2
  subst l2 y2 z2
  obtain ⟨rfl, N2q, e2⟩ := hQ2
  have N2 := Fr.app N0 N2q
  have pre2 : PQ p e below m S0 T2 5 #[rv a1, iv 0] [] := fun t kt => pre1 t (st2 _ kt)
  have pre3 : PQ p e below m S0 T2 7 #[rv a1, iv 0] [(.int 0), (.ref a1)] := by
    intro t kt
    refine pre2 t ?_
    refine ow_aloadN X2.here hx hby d31_5 rfl rfl ?_
    refine ow_iloadN X2.here hx hby d31_6 rfl ?_
    exact kt
  obtain ⟨_, _, ⟨T4, L4, k4, n4⟩, -, X4, ⟨Lc4, hQ4, l4, y4, z4⟩, st4⟩ := Jvm.LawKit.callS X2 hx (y := mn6) hown (mw hZ hw 135 rfl) (mw hZ hw 136 rfl) (mw hZ hw 114 rfl) (mw hZ hw 137 rfl) (by decide) (backOf (W := 0) (rm29_20 l Z a0 hw [] a1 (0 : Int32) kd x0 x1 x2 x3 h0 n0 Z0 V_a1 sA sH sL (rfl)) hZ (wi hw 137 rfl) (wi hw 114 rfl) (by decide) (by decide)) (g := (mkF m 7 #[rv a1, iv 0] [(.int 0), (.ref a1)])) rfl (by rw [hml]; rfl) (argsL := [(.ref a1), (.int 0)]) (rest := []) (lenOf pd_4 rfl) rfl (by show 2 * 0 + _ ≤ _; exact Nat.le_of_eq rfl) (hb hby d31_7) (fun _ _ => ⟨rfl, e2, (Nat.zero_le _), (Nat.zero_le _)⟩)
  dsimp only [Pt.U, Pt.locs, Pt.cells, Pt.slots] at X4 l4 y4 z4 st4 hQ4
  subst l4 y4 z4
  obtain ⟨rfl, N4q, e4⟩ := hQ4
  have N4 := Fr.app N2 N4q
  have pre4 : PQ p e below m S0 T4 10 #[rv a1, iv 0] [(.int (own_pr x0 x1))] := fun t kt => pre3 t (st4 _ kt)
  have hres : (nar .char (own_pr x0 x1)) = (own_pr x0 x1) := own_nc _
  obtain ⟨fs, hr, hu, hd, hW, hme⟩ := X4.leave (v := some (.int (nar .char (own_pr x0 x1)))) (fun h => by rw [Bd.returns] at h; cases h)
  refine ⟨_, _, pre4 _ ?_, hu, hd, _, _, rfl, ?_, ⟨_, rfl⟩, hW, hme.mono (by decide) (by decide)⟩
  · show SQ p e below m T4 10 #[rv a1, iv 0] [(.int (own_pr x0 x1))] _
    exact retN X4 hx (t := .char) Bd.returns (by simp) (hb hby d31_10) hr
  · show Qrm31_20 Z a1 (0 : Int32) kd x0 x1 x2 x3 fm h0 n0 _ T4.heap _
    rw [e4]
    exact ⟨congrArg some (congrArg Value.int hres), N4, rfl⟩
def Qrm31_21 (Z : State) (a1 : Addr) (p2 : Int32) (kd : ClassId) (x0 x1 : Int32) (x2 x3 : Int32) (fm : Value) (h0 : Heap) (n0 : Nat) (v : Option Value) (h : Heap) (L : List Loc) : Prop := v = some (.int (own_pr x2 x3)) ∧ Fr n0 L ∧ h = h0

theorem rm31_21 (l : Launch) (Z : State) (a0 : Array Value) (hw : HW a0 Z) (ws : List Jvm.Cond) (a1 : Addr) (p2 : Int32) (kd : ClassId) (x0 x1 : Int32) (x2 x3 : Int32) (fm : Value) (h0 : Heap) (n0 : Nat) (Z0 : n0 ≤ h0.size) (V_a1 : Arv Z h0 a1 kd .byte (4 : Int32) [(.int x0), (.int x1), (.int x2), (.int x3)] (.int 0)) (sF : sta3 Z h0 fm) (sA : sta0 Z h0 (.int 1)) (sH : sta1 Z h0 (.int 0)) (sL : sta2 Z h0 (.int 8)) (hFM : fm.isRef = true) (hp2 : p2 = (1 : Int32)) :
    MF l Z h0 mn16 kb27 2 (some .char) ws ro6 #[(.ref a1), (.int p2)] (Qrm31_21 Z a1 p2 kd x0 x1 x2 x3 fm h0 n0) := by
  refine own_go "java/lang/StringUTF16" rfl #[rv a1, iv p2] (fun m => ef_31 m a1 p2) (plainFor_of_name pn_2) ?_
  intro p e s m below meth c s₁ S0 Bd hx hby hml hown hZ X0 e0 pre0
  have N0 := Fr.nil n0
  subst hp2
  have pre1 : PQ p e below m S0 s₁ 2 #[rv a1, iv 1] [(.ref a1), (.int 1)] := by
    intro t kt
    refine pre0 t ?_
    refine ow_iloadN X0.here hx hby d31_0 rfl ?_
    refine ow_aloadN X0.here hx hby d31_1 rfl rfl ?_
    exact kt
  obtain ⟨_, _, ⟨T2, L2, k2, n2⟩, -, X2, ⟨Lc2, hQ2, l2, y2, z2⟩, st2⟩ := Jvm.LawKit.callS X0 hx (y := mn15) hown (mw hZ hw 144 rfl) (mw hZ hw 145 rfl) (mw hZ hw 114 rfl) (mw hZ hw 146 rfl) (by decide) (backOf (W := 0) (rm32_21 l Z a0 hw [] (1 : Int32) a1 kd [(.int x0), (.int x1), (.int x2), (.int x3)] fm h0 n0 Z0 V_a1 sF (hFM) (rfl)) hZ (wi hw 146 rfl) (wi hw 114 rfl) (by decide) (by decide)) (g := (mkF m 2 #[rv a1, iv 1] [(.ref a1), (.int 1)])) rfl (by rw [hml]; rfl) (argsL := [(.int 1), (.ref a1)]) (rest := []) (lenOf pd_3 rfl) rfl (by show 2 * 0 + _ ≤ _; exact Nat.le_of_eq rfl) (hb hby d31_2) (fun _ _ => ⟨rfl, e0, (Nat.zero_le _), (Nat.zero_le _)⟩)
  dsimp only [Pt.U, Pt.locs, Pt.cells, Pt.slots] at X2 l2 y2 z2 st2 hQ2
  subst l2 y2 z2
  obtain ⟨rfl, N2q, e2⟩ := hQ2
  have N2 := Fr.app N0 N2q
  have pre2 : PQ p e below m S0 T2 5 #[rv a1, iv 1] [] := fun t kt => pre1 t (st2 _ kt)
  have pre3 : PQ p e below m S0 T2 7 #[rv a1, iv 1] [(.int 1), (.ref a1)] := by
    intro t kt
    refine pre2 t ?_
    refine ow_aloadN X2.here hx hby d31_5 rfl rfl ?_
    refine ow_iloadN X2.here hx hby d31_6 rfl ?_
    exact kt
  obtain ⟨_, _, ⟨T4, L4, k4, n4⟩, -, X4, ⟨Lc4, hQ4, l4, y4, z4⟩, st4⟩ := Jvm.LawKit.callS X2 hx (y := mn6) hown (mw hZ hw 135 rfl) (mw hZ hw 136 rfl) (mw hZ hw 114 rfl) (mw hZ hw 137 rfl) (by decide) (backOf (W := 0) (rm29_21 l Z a0 hw [] a1 (1 : Int32) kd x0 x1 x2 x3 h0 n0 Z0 V_a1 sA sH sL (rfl)) hZ (wi hw 137 rfl) (wi hw 114 rfl) (by decide) (by decide)) (g := (mkF m 7 #[rv a1, iv 1] [(.int 1), (.ref a1)])) rfl (by rw [hml]; rfl) (argsL := [(.ref a1), (.int 1)]) (rest := []) (lenOf pd_4 rfl) rfl (by show 2 * 0 + _ ≤ _; exact Nat.le_of_eq rfl) (hb hby d31_7) (fun _ _ => ⟨rfl, e2, (Nat.zero_le _), (Nat.zero_le _)⟩)
  dsimp only [Pt.U, Pt.locs, Pt.cells, Pt.slots] at X4 l4 y4 z4 st4 hQ4
  subst l4 y4 z4
  obtain ⟨rfl, N4q, e4⟩ := hQ4
  have N4 := Fr.app N2 N4q
  have pre4 : PQ p e below m S0 T4 10 #[rv a1, iv 1] [(.int (own_pr x2 x3))] := fun t kt => pre3 t (st4 _ kt)
  have hres : (nar .char (own_pr x2 x3)) = (own_pr x2 x3) := own_nc _
  obtain ⟨fs, hr, hu, hd, hW, hme⟩ := X4.leave (v := some (.int (nar .char (own_pr x2 x3)))) (fun h => by rw [Bd.returns] at h; cases h)
  refine ⟨_, _, pre4 _ ?_, hu, hd, _, _, rfl, ?_, ⟨_, rfl⟩, hW, hme.mono (by decide) (by decide)⟩
  · show SQ p e below m T4 10 #[rv a1, iv 1] [(.int (own_pr x2 x3))] _
    exact retN X4 hx (t := .char) Bd.returns (by simp) (hb hby d31_10) hr
  · show Qrm31_21 Z a1 (1 : Int32) kd x0 x1 x2 x3 fm h0 n0 _ T4.heap _
    rw [e4]
    exact ⟨congrArg some (congrArg Value.int hres), N4, rfl⟩
def Qrm16_10 (Z : State) (a1 : Addr) (p2 : Int32) (kd : ClassId) (x0 : Int32) (fm : Value) (h0 : Heap) (n0 : Nat) (v : Option Value) (h : Heap) (L : List Loc) : Prop := v = some (.int (own_c8 x0)) ∧ Fr n0 L ∧ h = h0
theorem d16_0 : decode kb20 0 = .ok (.iload_n 1, 1) := by decide +kernel
theorem d16_1 : decode kb20 1 = .ok (.aload_n 0, 1) := by decide +kernel
theorem d16_2 : decode kb20 2 = .ok (.arraylength, 1) := by decide +kernel
theorem d16_3 : decode kb20 3 = .ok (.invokestatic 9, 3) := by decide +kernel
theorem d16_6 : decode kb20 6 = .ok (.aload_n 0, 1) := by decide +kernel
theorem d16_7 : decode kb20 7 = .ok (.iload_n 1, 1) := by decide +kernel
theorem d16_8 : decode kb20 8 = .ok (.baload, 1) := by decide +kernel
theorem d16_9 : decode kb20 9 = .ok (.sipush 255, 3) := by decide +kernel
theorem d16_12 : decode kb20 12 = .ok (.iand, 1) := by decide +kernel
theorem d16_13 : decode kb20 13 = .ok (.i2c, 1) := by decide +kernel
theorem d16_14 : decode kb20 14 = .ok (.ireturn, 1) := by decide +kernel
theorem ef_16 (m : MethodId) (x0 : Addr) (x1 : Int32) : entryFrame m #[(.ref x0), (.int x1)] 2 = mkF m 0 #[rv x0, iv x1] [] := by first | (simp [entryFrame, mkF, argsToLocals, Value.category]; done) | rfl
theorem rm16_10 (l : Launch) (Z : State) (a0 : Array Value) (hw : HW a0 Z) (ws : List Jvm.Cond) (a1 : Addr) (p2 : Int32) (kd : ClassId) (x0 : Int32) (fm : Value) (h0 : Heap) (n0 : Nat) (Z0 : n0 ≤ h0.size) (V_a1 : Arv Z h0 a1 kd .byte (1 : Int32) [(.int x0)] (.int 0)) (sF : sta3 Z h0 fm) (hFM : fm.isRef = true) (hp2 : p2 = (0 : Int32)) :
    MF l Z h0 mn17 kb20 2 (some .char) ws ro3 #[(.ref a1), (.int p2)] (Qrm16_10 Z a1 p2 kd x0 fm h0 n0) := by
  refine own_go "java/lang/StringLatin1" rfl #[rv a1, iv p2] (fun m => ef_16 m a1 p2) (plainFor_of_name pn_1) ?_
  intro p e s m below meth c s₁ S0 Bd hx hby hml hown hZ X0 e0 pre0
  have N0 := Fr.nil n0
  subst hp2
  have pre2 : PQ p e below m S0 s₁ 3 #[rv a1, iv 0] [(.int 1), (.int 0)] := by
    intro t kt
    refine pre0 t ?_
    refine ow_iloadN X0.here hx hby d16_0 rfl ?_
    refine ow_aloadN X0.here hx hby d16_1 rfl rfl ?_
    obtain ⟨cl1, Ar1, -, S1, M1, -, -⟩ := (id V_a1)
    refine X0.arraylength hx (by rw [e0]; exact Ar1.1) (State.isArrayOf_alike hZ.alike Ar1.2.1) (g := (mkF m 2 #[rv a1, iv 0] [(.ref a1), (.int 0)])) rfl rfl (hb hby d16_2) _ ?_
    rw [len_of S1 M1]
    exact kt
  obtain ⟨_, _, ⟨T3, L3, k3, n3⟩, -, X3, ⟨Lc3, hQ3, l3, y3, z3⟩, st3⟩ := Jvm.LawKit.callS X0 hx (y := mn13) hown (mw hZ hw 87 rfl) (mw hZ hw 88 rfl) (mw hZ hw 5 rfl) (mw hZ hw 89 rfl) (by decide) (backOf (W := 0) (rm17 l Z a0 hw [] (0 : Int32) (1 : Int32) fm h0 n0 Z0 sF (hFM) (by decide) (by decide)) hZ (wi hw 89 rfl) (wi hw 5 rfl) (by decide) (by decide)) (g := (mkF m 3 #[rv a1, iv 0] [(.int 1), (.int 0)])) rfl (by rw [hml]; rfl) (argsL := [(.int 0), (.int 1)]) (rest := []) (lenOf pd_2 rfl) rfl (by show 2 * 0 + _ ≤ _; exact Nat.le_of_eq rfl) (hb hby d16_3) (fun _ _ => ⟨rfl, e0, (Nat.zero_le _), (Nat.zero_le _)⟩)
  dsimp only [Pt.U, Pt.locs, Pt.cells, Pt.slots] at X3 l3 y3 z3 st3 hQ3
  subst l3 y3 z3
  obtain ⟨rfl, N3q, e3⟩ := hQ3
  have N3 := Fr.app N0 N3q
  have pre3 : PQ p e below m S0 T3 6 #[rv a1, iv 0] [] := fun t kt => pre2 t (st3 _ kt)
  have pre5 : PQ p e below m S0 T3 14 #[rv a1, iv 0] [(.int ((x0 &&& (255 : Int32)).toUInt32.toUInt16.toUInt32.toInt32))] := by
    intro t kt
    refine pre3 t ?_
    refine ow_aloadN X3.here hx hby d16_6 rfl rfl ?_
    refine ow_iloadN X3.here hx hby d16_7 rfl ?_
    obtain ⟨cl4, Ar4, -, S4, M4, H4, -⟩ := (id V_a1)
    have hin4 := inb_of (j := (0 : Int32)) S4 ⟨by decide, by decide⟩
    refine X3.baloadBytes hx (j := (0 : Int32)) (v := (.int x0)) (by rw [e3]; exact Ar4.1) (State.isArrayOf_alike hZ.alike Ar4.2.1) Ar4.2.2 hin4 (H4.at hin4 rfl) (g := (mkF m 8 #[rv a1, iv 0] [(.int 0), (.ref a1)])) rfl rfl (hb hby d16_8) _ ?_
    show SQ p e below m T3 9 #[rv a1, iv 0] [(.int x0)] _
    refine ow_sipush X3.here hx hby d16_9 (v := 255) rfl ?_
    refine ow_iand X3.here hx hby d16_12 ?_
    refine XS.i2c X3.here hx rfl (hb hby d16_13) rfl ?_
    exact kt
  have hres : (nar .char ((x0 &&& (255 : Int32)).toUInt32.toUInt16.toUInt32.toInt32)) = (own_c8 x0) := own_nc _
  obtain ⟨fs, hr, hu, hd, hW, hme⟩ := X3.leave (v := some (.int (nar .char ((x0 &&& (255 : Int32)).toUInt32.toUInt16.toUInt32.toInt32)))) (fun h => by rw [Bd.returns] at h; cases h)
  refine ⟨_, _, pre5 _ ?_, hu, hd, _, _, rfl, ?_, ⟨_, rfl⟩, hW, hme.mono (by decide) (by decide)⟩
  · show SQ p e below m T3 14 #[rv a1, iv 0] [(.int ((x0 &&& (255 : Int32)).toUInt32.toUInt16.toUInt32.toInt32))] _
    exact retN X3 hx (t := .char) Bd.returns (by simp) (hb hby d16_14) hr
  · show Qrm16_10 Z a1 (0 : Int32) kd x0 fm h0 n0 _ T3.heap _
    rw [e3]
    exact ⟨congrArg some (congrArg Value.int hres), N3, rfl⟩
def Qrm16_20 (Z : State) (a1 : Addr) (p2 : Int32) (kd : ClassId) (x0 x1 : Int32) (fm : Value) (h0 : Heap) (n0 : Nat) (v : Option Value) (h : Heap) (L : List Loc) : Prop := v = some (.int (own_c8 x0)) ∧ Fr n0 L ∧ h = h0

theorem rm16_20 (l : Launch) (Z : State) (a0 : Array Value) (hw : HW a0 Z) (ws : List Jvm.Cond) (a1 : Addr) (p2 : Int32) (kd : ClassId) (x0 x1 : Int32) (fm : Value) (h0 : Heap) (n0 : Nat) (Z0 : n0 ≤ h0.size) (V_a1 : Arv Z h0 a1 kd .byte (2 : Int32) [(.int x0), (.int x1)] (.int 0)) (sF : sta3 Z h0 fm) (hFM : fm.isRef = true) (hp2 : p2 = (0 : Int32)) :
    MF l Z h0 mn17 kb20 2 (some .char) ws ro3 #[(.ref a1), (.int p2)] (Qrm16_20 Z a1 p2 kd x0 x1 fm h0 n0) := by
  refine own_go "java/lang/StringLatin1" rfl #[rv a1, iv p2] (fun m => ef_16 m a1 p2) (plainFor_of_name pn_1) ?_
  intro p e s m below meth c s₁ S0 Bd hx hby hml hown hZ X0 e0 pre0
  have N0 := Fr.nil n0
  subst hp2
  have pre2 : PQ p e below m S0 s₁ 3 #[rv a1, iv 0] [(.int 2), (.int 0)] := by
    intro t kt
    refine pre0 t ?_
    refine ow_iloadN X0.here hx hby d16_0 rfl ?_
    refine ow_aloadN X0.here hx hby d16_1 rfl rfl ?_
    obtain ⟨cl1, Ar1, -, S1, M1, -, -⟩ := (id V_a1)
    refine X0.arraylength hx (by rw [e0]; exact Ar1.1) (State.isArrayOf_alike hZ.alike Ar1.2.1) (g := (mkF m 2 #[rv a1, iv 0] [(.ref a1), (.int 0)])) rfl rfl (hb hby d16_2) _ ?_
    rw [len_of S1 M1]
    exact kt
  obtain ⟨_, _, ⟨T3, L3, k3, n3⟩, -, X3, ⟨Lc3, hQ3, l3, y3, z3⟩, st3⟩ := Jvm.LawKit.callS X0 hx (y := mn13) hown (mw hZ hw 87 rfl) (mw hZ hw 88 rfl) (mw hZ hw 5 rfl) (mw hZ hw 89 rfl) (by decide) (backOf (W := 0) (rm17 l Z a0 hw [] (0 : Int32) (2 : Int32) fm h0 n0 Z0 sF (hFM) (by decide) (by decide)) hZ (wi hw 89 rfl) (wi hw 5 rfl) (by decide) (by decide)) (g := (mkF m 3 #[rv a1, iv 0] [(.int 2), (.int 0)])) rfl (by rw [hml]; rfl) (argsL := [(.int 0), (.int 2)]) (rest := []) (lenOf pd_2 rfl) rfl (by show 2 * 0 + _ ≤ _; exact Nat.le_of_eq rfl) (hb hby d16_3) (fun _ _ => ⟨rfl, e0, (Nat.zero_le _), (Nat.zero_le _)⟩)
  dsimp only [Pt.U, Pt.locs, Pt.cells, Pt.slots] at X3 l3 y3 z3 st3 hQ3
  subst l3 y3 z3
  obtain ⟨rfl, N3q, e3⟩ := hQ3
  have N3 := Fr.app N0 N3q
  have pre3 : PQ p e below m S0 T3 6 #[rv a1, iv 0] [] := fun t kt => pre2 t (st3 _ kt)
  have pre5 : PQ p e below m S0 T3 14 #[rv a1, iv 0] [(.int ((x0 &&& (255 : Int32)).toUInt32.toUInt16.toUInt32.toInt32))] := by
    intro t kt
    refine pre3 t ?_
    refine ow_aloadN X3.here hx hby d16_6 rfl rfl ?_
    refine ow_iloadN X3.here hx hby d16_7 rfl ?_
    obtain ⟨cl4, Ar4, -, S4, M4, H4, -⟩ := (id V_a1)
    have hin4 := inb_of (j := (0 : Int32)) S4 ⟨by decide, by decide⟩
    refine X3.baloadBytes hx (j := (0 : Int32)) (v := (.int x0)) (by rw [e3]; exact Ar4.1) (State.isArrayOf_alike hZ.alike Ar4.2.1) Ar4.2.2 hin4 (H4.at hin4 rfl) (g := (mkF m 8 #[rv a1, iv 0] [(.int 0), (.ref a1)])) rfl rfl (hb hby d16_8) _ ?_
    show SQ p e below m T3 9 #[rv a1, iv 0] [(.int x0)] _
    refine ow_sipush X3.here hx hby d16_9 (v := 255) rfl ?_
    refine ow_iand X3.here hx hby d16_12 ?_
    refine XS.i2c X3.here hx rfl (hb hby d16_13) rfl ?_
    exact kt
  have hres : (nar .char ((x0 &&& (255 : Int32)).toUInt32.toUInt16.toUInt32.toInt32)) = (own_c8 x0) := own_nc _
  obtain ⟨fs, hr, hu, hd, hW, hme⟩ := X3.leave (v := some (.int (nar .char ((x0 &&& (255 : Int32)).toUInt32.toUInt16.toUInt32.toInt32)))) (fun h => by rw [Bd.returns] at h; cases h)
  refine ⟨_, _, pre5 _ ?_, hu, hd, _, _, rfl, ?_, ⟨_, rfl⟩, hW, hme.mono (by decide) (by decide)⟩
  · show SQ p e below m T3 14 #[rv a1, iv 0] [(.int ((x0 &&& (255 : Int32)).toUInt32.toUInt16.toUInt32.toInt32))] _
    exact retN X3 hx (t := .char) Bd.returns (by simp) (hb hby d16_14) hr
  · show Qrm16_20 Z a1 (0 : Int32) kd x0 x1 fm h0 n0 _ T3.heap _
    rw [e3]
    exact ⟨congrArg some (congrArg Value.int hres), N3, rfl⟩
def Qrm16_21 (Z : State) (a1 : Addr) (p2 : Int32) (kd : ClassId) (x0 x1 : Int32) (fm : Value) (h0 : Heap) (n0 : Nat) (v : Option Value) (h : Heap) (L : List Loc) : Prop := v = some (.int (own_c8 x1)) ∧ Fr n0 L ∧ h = h0

theorem rm16_21 (l : Launch) (Z : State) (a0 : Array Value) (hw : HW a0 Z) (ws : List Jvm.Cond) (a1 : Addr) (p2 : Int32) (kd : ClassId) (x0 x1 : Int32) (fm : Value) (h0 : Heap) (n0 : Nat) (Z0 : n0 ≤ h0.size) (V_a1 : Arv Z h0 a1 kd .byte (2 : Int32) [(.int x0), (.int x1)] (.int 0)) (sF : sta3 Z h0 fm) (hFM : fm.isRef = true) (hp2 : p2 = (1 : Int32)) :
    MF l Z h0 mn17 kb20 2 (some .char) ws ro3 #[(.ref a1), (.int p2)] (Qrm16_21 Z a1 p2 kd x0 x1 fm h0 n0) := by
  refine own_go "java/lang/StringLatin1" rfl #[rv a1, iv p2] (fun m => ef_16 m a1 p2) (plainFor_of_name pn_1) ?_
  intro p e s m below meth c s₁ S0 Bd hx hby hml hown hZ X0 e0 pre0
  have N0 := Fr.nil n0
  subst hp2
  have pre2 : PQ p e below m S0 s₁ 3 #[rv a1, iv 1] [(.int 2), (.int 1)] := by
    intro t kt
    refine pre0 t ?_
    refine ow_iloadN X0.here hx hby d16_0 rfl ?_
    refine ow_aloadN X0.here hx hby d16_1 rfl rfl ?_
    obtain ⟨cl1, Ar1, -, S1, M1, -, -⟩ := (id V_a1)
    refine X0.arraylength hx (by rw [e0]; exact Ar1.1) (State.isArrayOf_alike hZ.alike Ar1.2.1) (g := (mkF m 2 #[rv a1, iv 1] [(.ref a1), (.int 1)])) rfl rfl (hb hby d16_2) _ ?_
    rw [len_of S1 M1]
    exact kt
  obtain ⟨_, _, ⟨T3, L3, k3, n3⟩, -, X3, ⟨Lc3, hQ3, l3, y3, z3⟩, st3⟩ := Jvm.LawKit.callS X0 hx (y := mn13) hown (mw hZ hw 87 rfl) (mw hZ hw 88 rfl) (mw hZ hw 5 rfl) (mw hZ hw 89 rfl) (by decide) (backOf (W := 0) (rm17 l Z a0 hw [] (1 : Int32) (2 : Int32) fm h0 n0 Z0 sF (hFM) (by decide) (by decide)) hZ (wi hw 89 rfl) (wi hw 5 rfl) (by decide) (by decide)) (g := (mkF m 3 #[rv a1, iv 1] [(.int 2), (.int 1)])) rfl (by rw [hml]; rfl) (argsL := [(.int 1), (.int 2)]) (rest := []) (lenOf pd_2 rfl) rfl (by show 2 * 0 + _ ≤ _; exact Nat.le_of_eq rfl) (hb hby d16_3) (fun _ _ => ⟨rfl, e0, (Nat.zero_le _), (Nat.zero_le _)⟩)
  dsimp only [Pt.U, Pt.locs, Pt.cells, Pt.slots] at X3 l3 y3 z3 st3 hQ3
  subst l3 y3 z3
  obtain ⟨rfl, N3q, e3⟩ := hQ3
  have N3 := Fr.app N0 N3q
  have pre3 : PQ p e below m S0 T3 6 #[rv a1, iv 1] [] := fun t kt => pre2 t (st3 _ kt)
  have pre5 : PQ p e below m S0 T3 14 #[rv a1, iv 1] [(.int ((x1 &&& (255 : Int32)).toUInt32.toUInt16.toUInt32.toInt32))] := by
    intro t kt
    refine pre3 t ?_
    refine ow_aloadN X3.here hx hby d16_6 rfl rfl ?_
    refine ow_iloadN X3.here hx hby d16_7 rfl ?_
    obtain ⟨cl4, Ar4, -, S4, M4, H4, -⟩ := (id V_a1)
    have hin4 := inb_of (j := (1 : Int32)) S4 ⟨by decide, by decide⟩
    refine X3.baloadBytes hx (j := (1 : Int32)) (v := (.int x1)) (by rw [e3]; exact Ar4.1) (State.isArrayOf_alike hZ.alike Ar4.2.1) Ar4.2.2 hin4 (H4.at hin4 rfl) (g := (mkF m 8 #[rv a1, iv 1] [(.int 1), (.ref a1)])) rfl rfl (hb hby d16_8) _ ?_
    show SQ p e below m T3 9 #[rv a1, iv 1] [(.int x1)] _
    refine ow_sipush X3.here hx hby d16_9 (v := 255) rfl ?_
    refine ow_iand X3.here hx hby d16_12 ?_
    refine XS.i2c X3.here hx rfl (hb hby d16_13) rfl ?_
    exact kt
  have hres : (nar .char ((x1 &&& (255 : Int32)).toUInt32.toUInt16.toUInt32.toInt32)) = (own_c8 x1) := own_nc _
  obtain ⟨fs, hr, hu, hd, hW, hme⟩ := X3.leave (v := some (.int (nar .char ((x1 &&& (255 : Int32)).toUInt32.toUInt16.toUInt32.toInt32)))) (fun h => by rw [Bd.returns] at h; cases h)
  refine ⟨_, _, pre5 _ ?_, hu, hd, _, _, rfl, ?_, ⟨_, rfl⟩, hW, hme.mono (by decide) (by decide)⟩
  · show SQ p e below m T3 14 #[rv a1, iv 1] [(.int ((x1 &&& (255 : Int32)).toUInt32.toUInt16.toUInt32.toInt32))] _
    exact retN X3 hx (t := .char) Bd.returns (by simp) (hb hby d16_14) hr
  · show Qrm16_21 Z a1 (1 : Int32) kd x0 x1 fm h0 n0 _ T3.heap _
    rw [e3]
    exact ⟨congrArg some (congrArg Value.int hres), N3, rfl⟩
def Qrm6_0 (Z : State) (a1 : Addr) (cz : Int32) (h0 : Heap) (n0 : Nat) (v : Option Value) (h : Heap) (L : List Loc) : Prop := v = some (.int 0) ∧ Fr n0 L ∧ h = h0
theorem d6_0 : decode kb39 0 = .ok (.getstatic 38, 3) := by decide +kernel
theorem d6_3 : decode kb39 3 = .ok (.ifCond .eq 10, 3) := by decide +kernel
theorem d6_6 : decode kb39 6 = .ok (.aload_n 0, 1) := by decide +kernel
theorem d6_7 : decode kb39 7 = .ok (.getfield 15, 3) := by decide +kernel
theorem d6_10 : decode kb39 10 = .ok (.goto 4, 3) := by decide +kernel
theorem d6_14 : decode kb39 14 = .ok (.ireturn, 1) := by decide +kernel
theorem ef_6 (m : MethodId) (x0 : Addr) : entryFrame m #[(.ref x0)] 1 = mkF m 0 #[rv x0] [] := by first | (simp [entryFrame, mkF, argsToLocals, Value.category]; done) | rfl
theorem rm6_0 (l : Launch) (Z : State) (a0 : Array Value) (hw : HW a0 Z) (ws : List Jvm.Cond) (a1 : Addr) (cz : Int32) (h0 : Heap) (n0 : Nat) (Z0 : n0 ≤ h0.size) (sC : sta4 Z h0 (.int cz)) (Fc_a1 : fld0 Z h0 a1 (.int 0)) (hCS : ¬ (cz = (0 : Int32))) :
    MF l Z h0 mn5 kb39 1 (some .byte) ws ro0 #[(.ref a1)] (Qrm6_0 Z a1 cz h0 n0) := by
  refine own_go "java/lang/String" rfl #[rv a1] (fun m => ef_6 m a1) (plainFor_of_name pn_4) ?_
  intro p e s m below meth c s₁ S0 Bd hx hby hml hown hZ X0 e0 pre0
  have N0 := Fr.nil n0
  obtain ⟨T1, X1, e1, st1⟩ := getS2 X0 hx hZ hown (host := "") (Or.inl (wi hw 41 rfl)) Via.refl e0 sC (g := (mkF m 0 #[rv a1] [])) rfl (hb hby d6_0)
  have pre1 : PQ p e below m S0 T1 3 #[rv a1] [(.int cz)] := fun t kt => pre0 t (st1 _ kt)
  have pre2 : PQ p e below m S0 T1 7 #[rv a1] [(.ref a1)] := by
    intro t kt
    refine pre1 t ?_
    refine ow_ifNo X1.here hx hby d6_3 ((if0 _ _).trans (feq hCS).1) ?_
    refine ow_aloadN X1.here hx hby d6_6 rfl rfl ?_
    exact kt
  obtain ⟨T3, X3, e3, pre3⟩ := ow_getF pre2 X1 hx hZ hown (host := "") (Or.inl (wi hw 42 rfl)) Via.refl e1 Fc_a1 hby d6_7
  have pre4 : PQ p e below m S0 T3 14 #[rv a1] [(.int 0)] := by
    intro t kt
    refine pre3 t ?_
    refine ow_goto X3.here hx hby d6_10 (pc' := 14) (by decide) (by decide) ?_
    exact kt
  obtain ⟨fs, hr, hu, hd, hW, hme⟩ := X3.leave (v := some (.int 0)) (fun h => by rw [Bd.returns] at h; cases h)
  refine ⟨_, _, pre4 _ ?_, hu, hd, _, _, rfl, ?_, ⟨_, rfl⟩, hW, hme.mono (by decide) (by decide)⟩
  · show SQ p e below m T3 14 #[rv a1] [(.int 0)] _
    exact retN X3 hx (t := .byte) Bd.returns (by simp) (hb hby d6_14) hr
  · show Qrm6_0 Z a1 cz h0 n0 _ T3.heap _
    rw [e3]
    exact ⟨rfl, N0, rfl⟩
def Qrm6_1 (Z : State) (a1 : Addr) (cz : Int32) (h0 : Heap) (n0 : Nat) (v : Option Value) (h : Heap) (L : List Loc) : Prop := v = some (.int 1) ∧ Fr n0 L ∧ h = h0

theorem rm6_1 (l : Launch) (Z : State) (a0 : Array Value) (hw : HW a0 Z) (ws : List Jvm.Cond) (a1 : Addr) (cz : Int32) (h0 : Heap) (n0 : Nat) (Z0 : n0 ≤ h0.size) (sC : sta4 Z h0 (.int cz)) (Fc_a1 : fld0 Z h0 a1 (.int 1)) (hCS : ¬ (cz = (0 : Int32))) :
    MF l Z h0 mn5 kb39 1 (some .byte) ws ro0 #[(.ref a1)] (Qrm6_1 Z a1 cz h0 n0) := by
  refine own_go "java/lang/String" rfl #[rv a1] (fun m => ef_6 m a1) (plainFor_of_name pn_4) ?_
  intro p e s m below meth c s₁ S0 Bd hx hby hml hown hZ X0 e0 pre0
  have N0 := Fr.nil n0
  obtain ⟨T1, X1, e1, st1⟩ := getS2 X0 hx hZ hown (host := "") (Or.inl (wi hw 41 rfl)) Via.refl e0 sC (g := (mkF m 0 #[rv a1] [])) rfl (hb hby d6_0)
  have pre1 : PQ p e below m S0 T1 3 #[rv a1] [(.int cz)] := fun t kt => pre0 t (st1 _ kt)
  have pre2 : PQ p e below m S0 T1 7 #[rv a1] [(.ref a1)] := by
    intro t kt
    refine pre1 t ?_
    refine ow_ifNo X1.here hx hby d6_3 ((if0 _ _).trans (feq hCS).1) ?_
    refine ow_aloadN X1.here hx hby d6_6 rfl rfl ?_
    exact kt
  obtain ⟨T3, X3, e3, pre3⟩ := ow_getF pre2 X1 hx hZ hown (host := "") (Or.inl (wi hw 42 rfl)) Via.refl e1 Fc_a1 hby d6_7
  have pre4 : PQ p e below m S0 T3 14 #[rv a1] [(.int 1)] := by
    intro t kt
    refine pre3 t ?_
    refine ow_goto X3.here hx hby d6_10 (pc' := 14) (by decide) (by decide) ?_
    exact kt
  obtain ⟨fs, hr, hu, hd, hW, hme⟩ := X3.leave (v := some (.int 1)) (fun h => by rw [Bd.returns] at h; cases h)
  refine ⟨_, _, pre4 _ ?_, hu, hd, _, _, rfl, ?_, ⟨_, rfl⟩, hW, hme.mono (by decide) (by decide)⟩
  · show SQ p e below m T3 14 #[rv a1] [(.int 1)] _
    exact retN X3 hx (t := .byte) Bd.returns (by simp) (hb hby d6_14) hr
  · show Qrm6_1 Z a1 cz h0 n0 _ T3.heap _
    rw [e3]
    exact ⟨rfl, N0, rfl⟩
def Qrm15_0 (Z : State) (a1 : Addr) (cz : Int32) (h0 : Heap) (n0 : Nat) (v : Option Value) (h : Heap) (L : List Loc) : Prop := v = some (.int 1) ∧ Fr n0 L ∧ h = h0
theorem d15_0 : decode kb23 0 = .ok (.getstatic 38, 3) := by decide +kernel
theorem d15_3 : decode kb23 3 = .ok (.ifCond .eq 14, 3) := by decide +kernel
theorem d15_6 : decode kb23 6 = .ok (.aload_n 0, 1) := by decide +kernel
theorem d15_7 : decode kb23 7 = .ok (.getfield 15, 3) := by decide +kernel
theorem d15_10 : decode kb23 10 = .ok (.ifCond .ne 7, 3) := by decide +kernel
theorem d15_13 : decode kb23 13 = .ok (.iconst 1, 1) := by decide +kernel
theorem d15_14 : decode kb23 14 = .ok (.goto 4, 3) := by decide +kernel
theorem d15_18 : decode kb23 18 = .ok (.ireturn, 1) := by decide +kernel
theorem ef_15 (m : MethodId) (x0 : Addr) : entryFrame m #[(.ref x0)] 1 = mkF m 0 #[rv x0] [] := by first | (simp [entryFrame, mkF, argsToLocals, Value.category]; done) | rfl
theorem rm15_0 (l : Launch) (Z : State) (a0 : Array Value) (hw : HW a0 Z) (ws : List Jvm.Cond) (a1 : Addr) (cz : Int32) (h0 : Heap) (n0 : Nat) (Z0 : n0 ≤ h0.size) (sC : sta4 Z h0 (.int cz)) (Fc_a1 : fld0 Z h0 a1 (.int 0)) (hCS : ¬ (cz = (0 : Int32))) :
    MF l Z h0 mn1 kb23 1 (some .boolean) ws ro0 #[(.ref a1)] (Qrm15_0 Z a1 cz h0 n0) := by
  refine own_go "java/lang/String" rfl #[rv a1] (fun m => ef_15 m a1) (plainFor_of_name pn_4) ?_
  intro p e s m below meth c s₁ S0 Bd hx hby hml hown hZ X0 e0 pre0
  have N0 := Fr.nil n0
  obtain ⟨T1, X1, e1, st1⟩ := getS2 X0 hx hZ hown (host := "") (Or.inl (wi hw 41 rfl)) Via.refl e0 sC (g := (mkF m 0 #[rv a1] [])) rfl (hb hby d15_0)
  have pre1 : PQ p e below m S0 T1 3 #[rv a1] [(.int cz)] := fun t kt => pre0 t (st1 _ kt)
  have pre2 : PQ p e below m S0 T1 7 #[rv a1] [(.ref a1)] := by
    intro t kt
    refine pre1 t ?_
    refine ow_ifNo X1.here hx hby d15_3 ((if0 _ _).trans (feq hCS).1) ?_
    refine ow_aloadN X1.here hx hby d15_6 rfl rfl ?_
    exact kt
  obtain ⟨T3, X3, e3, pre3⟩ := ow_getF pre2 X1 hx hZ hown (host := "") (Or.inl (wi hw 42 rfl)) Via.refl e1 Fc_a1 hby d15_7
  have pre4 : PQ p e below m S0 T3 18 #[rv a1] [(.int 1)] := by
    intro t kt
    refine pre3 t ?_
    refine ow_ifNo X3.here hx hby d15_10 ((if0 _ _).trans (teq (by decide)).2) ?_
    refine ow_iconst X3.here hx hby d15_13 (v := 1) rfl ?_
    refine ow_goto X3.here hx hby d15_14 (pc' := 18) (by decide) (by decide) ?_
    exact kt
  obtain ⟨fs, hr, hu, hd, hW, hme⟩ := X3.leave (v := some (.int 1)) (fun h => by rw [Bd.returns] at h; cases h)
  refine ⟨_, _, pre4 _ ?_, hu, hd, _, _, rfl, ?_, ⟨_, rfl⟩, hW, hme.mono (by decide) (by decide)⟩
  · show SQ p e below m T3 18 #[rv a1] [(.int 1)] _
    exact retN X3 hx (t := .boolean) Bd.returns (by simp) (hb hby d15_18) hr
  · show Qrm15_0 Z a1 cz h0 n0 _ T3.heap _
    rw [e3]
    exact ⟨rfl, N0, rfl⟩
def Qrm15_1 (Z : State) (a1 : Addr) (cz : Int32) (h0 : Heap) (n0 : Nat) (v : Option Value) (h : Heap) (L : List Loc) : Prop := v = some (.int 0) ∧ Fr n0 L ∧ h = h0
theorem d15_17 : decode kb23 17 = .ok (.iconst 0, 1) := by decide +kernel

theorem rm15_1 (l : Launch) (Z : State) (a0 : Array Value) (hw : HW a0 Z) (ws : List Jvm.Cond) (a1 : Addr) (cz : Int32) (h0 : Heap) (n0 : Nat) (Z0 : n0 ≤ h0.size) (sC : sta4 Z h0 (.int cz)) (Fc_a1 : fld0 Z h0 a1 (.int 1)) (hCS : ¬ (cz = (0 : Int32))) :
    MF l Z h0 mn1 kb23 1 (some .boolean) ws ro0 #[(.ref a1)] (Qrm15_1 Z a1 cz h0 n0) := by
  refine own_go "java/lang/String" rfl #[rv a1] (fun m => ef_15 m a1) (plainFor_of_name pn_4) ?_
  intro p e s m below meth c s₁ S0 Bd hx hby hml hown hZ X0 e0 pre0
  have N0 := Fr.nil n0
  obtain ⟨T1, X1, e1, st1⟩ := getS2 X0 hx hZ hown (host := "") (Or.inl (wi hw 41 rfl)) Via.refl e0 sC (g := (mkF m 0 #[rv a1] [])) rfl (hb hby d15_0)
  have pre1 : PQ p e below m S0 T1 3 #[rv a1] [(.int cz)] := fun t kt => pre0 t (st1 _ kt)
  have pre2 : PQ p e below m S0 T1 7 #[rv a1] [(.ref a1)] := by
    intro t kt
    refine pre1 t ?_
    refine ow_ifNo X1.here hx hby d15_3 ((if0 _ _).trans (feq hCS).1) ?_
    refine ow_aloadN X1.here hx hby d15_6 rfl rfl ?_
    exact kt
  obtain ⟨T3, X3, e3, pre3⟩ := ow_getF pre2 X1 hx hZ hown (host := "") (Or.inl (wi hw 42 rfl)) Via.refl e1 Fc_a1 hby d15_7
  have pre4 : PQ p e below m S0 T3 18 #[rv a1] [(.int 0)] := by
    intro t kt
    refine pre3 t ?_
    refine ow_ifYes X3.here hx hby d15_10 ((if0 _ _).trans (feq (by decide)).2) (pc' := 17) (by decide) (by decide) ?_
    refine ow_iconst X3.here hx hby d15_17 (v := 0) rfl ?_
    exact kt
  obtain ⟨fs, hr, hu, hd, hW, hme⟩ := X3.leave (v := some (.int 0)) (fun h => by rw [Bd.returns] at h; cases h)
  refine ⟨_, _, pre4 _ ?_, hu, hd, _, _, rfl, ?_, ⟨_, rfl⟩, hW, hme.mono (by decide) (by decide)⟩
  · show SQ p e below m T3 18 #[rv a1] [(.int 0)] _
    exact retN X3 hx (t := .boolean) Bd.returns (by simp) (hb hby d15_18) hr
  · show Qrm15_1 Z a1 cz h0 n0 _ T3.heap _
    rw [e3]
    exact ⟨rfl, N0, rfl⟩
def Qrm5_00 (Z : State) (a1 tb : Addr) (kd : ClassId) (vs : List Value) (cz : Int32) (h0 : Heap) (n0 : Nat) (v : Option Value) (h : Heap) (L : List Loc) : Prop := v = some (.int 0) ∧ Fr n0 L ∧ h = h0
theorem d5_0 : decode kb19 0 = .ok (.aload_n 0, 1) := by decide +kernel
theorem d5_1 : decode kb19 1 = .ok (.getfield 9, 3) := by decide +kernel
theorem d5_4 : decode kb19 4 = .ok (.arraylength, 1) := by decide +kernel
theorem d5_5 : decode kb19 5 = .ok (.aload_n 0, 1) := by decide +kernel
theorem d5_6 : decode kb19 6 = .ok (.invokevirtual 335, 3) := by decide +kernel
theorem d5_9 : decode kb19 9 = .ok (.ishr, 1) := by decide +kernel
theorem d5_10 : decode kb19 10 = .ok (.ireturn, 1) := by decide +kernel
theorem ef_5 (m : MethodId) (x0 : Addr) : entryFrame m #[(.ref x0)] 1 = mkF m 0 #[rv x0] [] := by first | (simp [entryFrame, mkF, argsToLocals, Value.category]; done) | rfl
theorem rm5_00 (l : Launch) (Z : State) (a0 : Array Value) (hw : HW a0 Z) (ws : List Jvm.Cond) (a1 tb : Addr) (kd : ClassId) (vs : List Value) (cz : Int32) (h0 : Heap) (n0 : Nat) (Z0 : n0 ≤ h0.size) (E_a1 : exa0 Z h0 a1) (Fv_a1 : fld1 Z h0 a1 (.ref tb)) (Fc_a1 : fld0 Z h0 a1 (.int 0)) (V_tb : Arv Z h0 tb kd .byte (0 : Int32) vs (.int 0)) (sC : sta4 Z h0 (.int cz)) (hCS : ¬ (cz = (0 : Int32))) :
    MF l Z h0 mn0 kb19 1 (some .int) ws ro1 #[(.ref a1)] (Qrm5_00 Z a1 tb kd vs cz h0 n0) := by
  refine own_go "java/lang/String" rfl #[rv a1] (fun m => ef_5 m a1) (plainFor_of_name pn_4) ?_
  intro p e s m below meth c s₁ S0 Bd hx hby hml hown hZ X0 e0 pre0
  have N0 := Fr.nil n0
  have pre1 : PQ p e below m S0 s₁ 1 #[rv a1] [(.ref a1)] := by
    intro t kt
    refine pre0 t ?_
    refine ow_aloadN X0.here hx hby d5_0 rfl rfl ?_
    exact kt
  obtain ⟨T2, X2, e2, pre2⟩ := ow_getF pre1 X0 hx hZ hown (host := "") (Or.inl (wi hw 35 rfl)) Via.refl e0 Fv_a1 hby d5_1
  have pre4 : PQ p e below m S0 T2 6 #[rv a1] [(.ref a1), (.int 0)] := by
    intro t kt
    refine pre2 t ?_
    obtain ⟨cl3, Ar3, -, S3, M3, -, -⟩ := (id V_tb)
    refine X2.arraylength hx (by rw [e2]; exact Ar3.1) (State.isArrayOf_alike hZ.alike Ar3.2.1) (g := (mkF m 4 #[rv a1] [(.ref tb)])) rfl rfl (hb hby d5_4) _ ?_
    rw [len_of S3 M3]
    show SQ p e below m T2 5 #[rv a1] [(.int 0)] _
    refine ow_aloadN X2.here hx hby d5_5 rfl rfl ?_
    exact kt
  obtain ⟨cq5, kq5, q5a, q5b, q5c⟩ := isOf hZ e2 E_a1
  obtain ⟨_, _, ⟨T5, L5, k5, n5⟩, -, X5, ⟨Lc5, hQ5, l5, y5, z5⟩, st5⟩ := X2.virtualBack hx (y := mn5) (z := mn5) hown (mw hZ hw 36 rfl) (mw hZ hw 37 rfl) (notFace_of_selects (args := #[]) (mw hZ hw 39 rfl)) (mw hZ hw 39 rfl) (mw hZ hw 38 rfl) (by decide) (backOf (W := 1) (rm6_0 l Z a0 hw [] a1 cz h0 n0 Z0 sC Fc_a1 (hCS)) hZ (wi hw 40 rfl) (wi hw 5 rfl) (by decide) (by decide)) q5a q5c (g := (mkF m 6 #[rv a1] [(.ref a1), (.int 0)])) rfl (by rw [hml]; rfl) (Steps.refl _) (argsL := []) (rest := [(.int 0)]) (lenOf pd_5 rfl) rfl (by show 2 * 0 + _ ≤ _; exact Nat.le_of_eq rfl) (hb hby d5_6) (fun _ _ => ⟨rfl, e2, (Nat.zero_le _), (Nat.zero_le _)⟩)
  dsimp only [Pt.U, Pt.locs, Pt.cells, Pt.slots] at X5 l5 y5 z5 st5 hQ5
  subst l5 y5 z5
  obtain ⟨rfl, N5q, e5⟩ := hQ5
  have N5 := Fr.app N0 N5q
  have pre5 : PQ p e below m S0 T5 9 #[rv a1] [(.int 0), (.int 0)] := fun t kt => pre4 t (st5.trans kt)
  have pre6 : PQ p e below m S0 T5 10 #[rv a1] [(.int 0)] := by
    intro t kt
    refine pre5 t ?_
    refine XS.ishr X5.here hx rfl (hb hby d5_9) rfl ?_
    exact kt
  obtain ⟨fs, hr, hu, hd, hW, hme⟩ := X5.leave (v := some (.int 0)) (fun h => by rw [Bd.returns] at h; cases h)
  refine ⟨_, _, pre6 _ ?_, hu, hd, _, _, rfl, ?_, ⟨_, rfl⟩, hW, hme.mono (by decide) (by decide)⟩
  · show SQ p e below m T5 10 #[rv a1] [(.int 0)] _
    exact retI X5 hx Bd.returns (hb hby d5_10) hr
  · show Qrm5_00 Z a1 tb kd vs cz h0 n0 _ T5.heap _
    rw [e5]
    exact ⟨rfl, N5, rfl⟩
def Qrm5_01 (Z : State) (a1 tb : Addr) (kd : ClassId) (vs : List Value) (cz : Int32) (h0 : Heap) (n0 : Nat) (v : Option Value) (h : Heap) (L : List Loc) : Prop := v = some (.int 1) ∧ Fr n0 L ∧ h = h0

theorem rm5_01 (l : Launch) (Z : State) (a0 : Array Value) (hw : HW a0 Z) (ws : List Jvm.Cond) (a1 tb : Addr) (kd : ClassId) (vs : List Value) (cz : Int32) (h0 : Heap) (n0 : Nat) (Z0 : n0 ≤ h0.size) (E_a1 : exa0 Z h0 a1) (Fv_a1 : fld1 Z h0 a1 (.ref tb)) (Fc_a1 : fld0 Z h0 a1 (.int 0)) (V_tb : Arv Z h0 tb kd .byte (1 : Int32) vs (.int 0)) (sC : sta4 Z h0 (.int cz)) (hCS : ¬ (cz = (0 : Int32))) :
    MF l Z h0 mn0 kb19 1 (some .int) ws ro1 #[(.ref a1)] (Qrm5_01 Z a1 tb kd vs cz h0 n0) := by
  refine own_go "java/lang/String" rfl #[rv a1] (fun m => ef_5 m a1) (plainFor_of_name pn_4) ?_
  intro p e s m below meth c s₁ S0 Bd hx hby hml hown hZ X0 e0 pre0
  have N0 := Fr.nil n0
  have pre1 : PQ p e below m S0 s₁ 1 #[rv a1] [(.ref a1)] := by
    intro t kt
    refine pre0 t ?_
    refine ow_aloadN X0.here hx hby d5_0 rfl rfl ?_
    exact kt
  obtain ⟨T2, X2, e2, pre2⟩ := ow_getF pre1 X0 hx hZ hown (host := "") (Or.inl (wi hw 35 rfl)) Via.refl e0 Fv_a1 hby d5_1
  have pre4 : PQ p e below m S0 T2 6 #[rv a1] [(.ref a1), (.int 1)] := by
    intro t kt
    refine pre2 t ?_
    obtain ⟨cl3, Ar3, -, S3, M3, -, -⟩ := (id V_tb)
    refine X2.arraylength hx (by rw [e2]; exact Ar3.1) (State.isArrayOf_alike hZ.alike Ar3.2.1) (g := (mkF m 4 #[rv a1] [(.ref tb)])) rfl rfl (hb hby d5_4) _ ?_
    rw [len_of S3 M3]
    show SQ p e below m T2 5 #[rv a1] [(.int 1)] _
    refine ow_aloadN X2.here hx hby d5_5 rfl rfl ?_
    exact kt
  obtain ⟨cq5, kq5, q5a, q5b, q5c⟩ := isOf hZ e2 E_a1
  obtain ⟨_, _, ⟨T5, L5, k5, n5⟩, -, X5, ⟨Lc5, hQ5, l5, y5, z5⟩, st5⟩ := X2.virtualBack hx (y := mn5) (z := mn5) hown (mw hZ hw 36 rfl) (mw hZ hw 37 rfl) (notFace_of_selects (args := #[]) (mw hZ hw 39 rfl)) (mw hZ hw 39 rfl) (mw hZ hw 38 rfl) (by decide) (backOf (W := 1) (rm6_0 l Z a0 hw [] a1 cz h0 n0 Z0 sC Fc_a1 (hCS)) hZ (wi hw 40 rfl) (wi hw 5 rfl) (by decide) (by decide)) q5a q5c (g := (mkF m 6 #[rv a1] [(.ref a1), (.int 1)])) rfl (by rw [hml]; rfl) (Steps.refl _) (argsL := []) (rest := [(.int 1)]) (lenOf pd_5 rfl) rfl (by show 2 * 0 + _ ≤ _; exact Nat.le_of_eq rfl) (hb hby d5_6) (fun _ _ => ⟨rfl, e2, (Nat.zero_le _), (Nat.zero_le _)⟩)
  dsimp only [Pt.U, Pt.locs, Pt.cells, Pt.slots] at X5 l5 y5 z5 st5 hQ5
  subst l5 y5 z5
  obtain ⟨rfl, N5q, e5⟩ := hQ5
  have N5 := Fr.app N0 N5q
  have pre5 : PQ p e below m S0 T5 9 #[rv a1] [(.int 0), (.int 1)] := fun t kt => pre4 t (st5.trans kt)
  have pre6 : PQ p e below m S0 T5 10 #[rv a1] [(.int 1)] := by
    intro t kt
    refine pre5 t ?_
    refine XS.ishr X5.here hx rfl (hb hby d5_9) rfl ?_
    exact kt
  obtain ⟨fs, hr, hu, hd, hW, hme⟩ := X5.leave (v := some (.int 1)) (fun h => by rw [Bd.returns] at h; cases h)
  refine ⟨_, _, pre6 _ ?_, hu, hd, _, _, rfl, ?_, ⟨_, rfl⟩, hW, hme.mono (by decide) (by decide)⟩
  · show SQ p e below m T5 10 #[rv a1] [(.int 1)] _
    exact retI X5 hx Bd.returns (hb hby d5_10) hr
  · show Qrm5_01 Z a1 tb kd vs cz h0 n0 _ T5.heap _
    rw [e5]
    exact ⟨rfl, N5, rfl⟩
def Qrm5_02 (Z : State) (a1 tb : Addr) (kd : ClassId) (vs : List Value) (cz : Int32) (h0 : Heap) (n0 : Nat) (v : Option Value) (h : Heap) (L : List Loc) : Prop := v = some (.int 2) ∧ Fr n0 L ∧ h = h0

theorem rm5_02 (l : Launch) (Z : State) (a0 : Array Value) (hw : HW a0 Z) (ws : List Jvm.Cond) (a1 tb : Addr) (kd : ClassId) (vs : List Value) (cz : Int32) (h0 : Heap) (n0 : Nat) (Z0 : n0 ≤ h0.size) (E_a1 : exa0 Z h0 a1) (Fv_a1 : fld1 Z h0 a1 (.ref tb)) (Fc_a1 : fld0 Z h0 a1 (.int 0)) (V_tb : Arv Z h0 tb kd .byte (2 : Int32) vs (.int 0)) (sC : sta4 Z h0 (.int cz)) (hCS : ¬ (cz = (0 : Int32))) :
    MF l Z h0 mn0 kb19 1 (some .int) ws ro1 #[(.ref a1)] (Qrm5_02 Z a1 tb kd vs cz h0 n0) := by
  refine own_go "java/lang/String" rfl #[rv a1] (fun m => ef_5 m a1) (plainFor_of_name pn_4) ?_
  intro p e s m below meth c s₁ S0 Bd hx hby hml hown hZ X0 e0 pre0
  have N0 := Fr.nil n0
  have pre1 : PQ p e below m S0 s₁ 1 #[rv a1] [(.ref a1)] := by
    intro t kt
    refine pre0 t ?_
    refine ow_aloadN X0.here hx hby d5_0 rfl rfl ?_
    exact kt
  obtain ⟨T2, X2, e2, pre2⟩ := ow_getF pre1 X0 hx hZ hown (host := "") (Or.inl (wi hw 35 rfl)) Via.refl e0 Fv_a1 hby d5_1
  have pre4 : PQ p e below m S0 T2 6 #[rv a1] [(.ref a1), (.int 2)] := by
    intro t kt
    refine pre2 t ?_
    obtain ⟨cl3, Ar3, -, S3, M3, -, -⟩ := (id V_tb)
    refine X2.arraylength hx (by rw [e2]; exact Ar3.1) (State.isArrayOf_alike hZ.alike Ar3.2.1) (g := (mkF m 4 #[rv a1] [(.ref tb)])) rfl rfl (hb hby d5_4) _ ?_
    rw [len_of S3 M3]
    show SQ p e below m T2 5 #[rv a1] [(.int 2)] _
    refine ow_aloadN X2.here hx hby d5_5 rfl rfl ?_
    exact kt
  obtain ⟨cq5, kq5, q5a, q5b, q5c⟩ := isOf hZ e2 E_a1
  obtain ⟨_, _, ⟨T5, L5, k5, n5⟩, -, X5, ⟨Lc5, hQ5, l5, y5, z5⟩, st5⟩ := X2.virtualBack hx (y := mn5) (z := mn5) hown (mw hZ hw 36 rfl) (mw hZ hw 37 rfl) (notFace_of_selects (args := #[]) (mw hZ hw 39 rfl)) (mw hZ hw 39 rfl) (mw hZ hw 38 rfl) (by decide) (backOf (W := 1) (rm6_0 l Z a0 hw [] a1 cz h0 n0 Z0 sC Fc_a1 (hCS)) hZ (wi hw 40 rfl) (wi hw 5 rfl) (by decide) (by decide)) q5a q5c (g := (mkF m 6 #[rv a1] [(.ref a1), (.int 2)])) rfl (by rw [hml]; rfl) (Steps.refl _) (argsL := []) (rest := [(.int 2)]) (lenOf pd_5 rfl) rfl (by show 2 * 0 + _ ≤ _; exact Nat.le_of_eq rfl) (hb hby d5_6) (fun _ _ => ⟨rfl, e2, (Nat.zero_le _), (Nat.zero_le _)⟩)
  dsimp only [Pt.U, Pt.locs, Pt.cells, Pt.slots] at X5 l5 y5 z5 st5 hQ5
  subst l5 y5 z5
  obtain ⟨rfl, N5q, e5⟩ := hQ5
  have N5 := Fr.app N0 N5q
  have pre5 : PQ p e below m S0 T5 9 #[rv a1] [(.int 0), (.int 2)] := fun t kt => pre4 t (st5.trans kt)
  have pre6 : PQ p e below m S0 T5 10 #[rv a1] [(.int 2)] := by
    intro t kt
    refine pre5 t ?_
    refine XS.ishr X5.here hx rfl (hb hby d5_9) rfl ?_
    exact kt
  obtain ⟨fs, hr, hu, hd, hW, hme⟩ := X5.leave (v := some (.int 2)) (fun h => by rw [Bd.returns] at h; cases h)
  refine ⟨_, _, pre6 _ ?_, hu, hd, _, _, rfl, ?_, ⟨_, rfl⟩, hW, hme.mono (by decide) (by decide)⟩
  · show SQ p e below m T5 10 #[rv a1] [(.int 2)] _
    exact retI X5 hx Bd.returns (hb hby d5_10) hr
  · show Qrm5_02 Z a1 tb kd vs cz h0 n0 _ T5.heap _
    rw [e5]
    exact ⟨rfl, N5, rfl⟩
def Qrm5_11 (Z : State) (a1 tb : Addr) (kd : ClassId) (vs : List Value) (cz : Int32) (h0 : Heap) (n0 : Nat) (v : Option Value) (h : Heap) (L : List Loc) : Prop := v = some (.int 1) ∧ Fr n0 L ∧ h = h0

theorem rm5_11 (l : Launch) (Z : State) (a0 : Array Value) (hw : HW a0 Z) (ws : List Jvm.Cond) (a1 tb : Addr) (kd : ClassId) (vs : List Value) (cz : Int32) (h0 : Heap) (n0 : Nat) (Z0 : n0 ≤ h0.size) (E_a1 : exa0 Z h0 a1) (Fv_a1 : fld1 Z h0 a1 (.ref tb)) (Fc_a1 : fld0 Z h0 a1 (.int 1)) (V_tb : Arv Z h0 tb kd .byte (2 : Int32) vs (.int 0)) (sC : sta4 Z h0 (.int cz)) (hCS : ¬ (cz = (0 : Int32))) :
    MF l Z h0 mn0 kb19 1 (some .int) ws ro1 #[(.ref a1)] (Qrm5_11 Z a1 tb kd vs cz h0 n0) := by
  refine own_go "java/lang/String" rfl #[rv a1] (fun m => ef_5 m a1) (plainFor_of_name pn_4) ?_
  intro p e s m below meth c s₁ S0 Bd hx hby hml hown hZ X0 e0 pre0
  have N0 := Fr.nil n0
  have pre1 : PQ p e below m S0 s₁ 1 #[rv a1] [(.ref a1)] := by
    intro t kt
    refine pre0 t ?_
    refine ow_aloadN X0.here hx hby d5_0 rfl rfl ?_
    exact kt
  obtain ⟨T2, X2, e2, pre2⟩ := ow_getF pre1 X0 hx hZ hown (host := "") (Or.inl (wi hw 35 rfl)) Via.refl e0 Fv_a1 hby d5_1
  have pre4 : PQ p e below m S0 T2 6 #[rv a1] [(.ref a1), (.int 2)] := by
    intro t kt
    refine pre2 t ?_
    obtain ⟨cl3, Ar3, -, S3, M3, -, -⟩ := (id V_tb)
    refine X2.arraylength hx (by rw [e2]; exact Ar3.1) (State.isArrayOf_alike hZ.alike Ar3.2.1) (g := (mkF m 4 #[rv a1] [(.ref tb)])) rfl rfl (hb hby d5_4) _ ?_
    rw [len_of S3 M3]
    show SQ p e below m T2 5 #[rv a1] [(.int 2)] _
    refine ow_aloadN X2.here hx hby d5_5 rfl rfl ?_
    exact kt
  obtain ⟨cq5, kq5, q5a, q5b, q5c⟩ := isOf hZ e2 E_a1
  obtain ⟨_, _, ⟨T5, L5, k5, n5⟩, -, X5, ⟨Lc5, hQ5, l5, y5, z5⟩, st5⟩ := X2.virtualBack hx (y := mn5) (z := mn5) hown (mw hZ hw 36 rfl) (mw hZ hw 37 rfl) (notFace_of_selects (args := #[]) (mw hZ hw 39 rfl)) (mw hZ hw 39 rfl) (mw hZ hw 38 rfl) (by decide) (backOf (W := 1) (rm6_1 l Z a0 hw [] a1 cz h0 n0 Z0 sC Fc_a1 (hCS)) hZ (wi hw 40 rfl) (wi hw 5 rfl) (by decide) (by decide)) q5a q5c (g := (mkF m 6 #[rv a1] [(.ref a1), (.int 2)])) rfl (by rw [hml]; rfl) (Steps.refl _) (argsL := []) (rest := [(.int 2)]) (lenOf pd_5 rfl) rfl (by show 2 * 0 + _ ≤ _; exact Nat.le_of_eq rfl) (hb hby d5_6) (fun _ _ => ⟨rfl, e2, (Nat.zero_le _), (Nat.zero_le _)⟩)
  dsimp only [Pt.U, Pt.locs, Pt.cells, Pt.slots] at X5 l5 y5 z5 st5 hQ5
  subst l5 y5 z5
  obtain ⟨rfl, N5q, e5⟩ := hQ5
  have N5 := Fr.app N0 N5q
  have pre5 : PQ p e below m S0 T5 9 #[rv a1] [(.int 1), (.int 2)] := fun t kt => pre4 t (st5.trans kt)
  have pre6 : PQ p e below m S0 T5 10 #[rv a1] [(.int 1)] := by
    intro t kt
    refine pre5 t ?_
    refine XS.ishr X5.here hx rfl (hb hby d5_9) rfl ?_
    exact kt
  obtain ⟨fs, hr, hu, hd, hW, hme⟩ := X5.leave (v := some (.int 1)) (fun h => by rw [Bd.returns] at h; cases h)
  refine ⟨_, _, pre6 _ ?_, hu, hd, _, _, rfl, ?_, ⟨_, rfl⟩, hW, hme.mono (by decide) (by decide)⟩
  · show SQ p e below m T5 10 #[rv a1] [(.int 1)] _
    exact retI X5 hx Bd.returns (hb hby d5_10) hr
  · show Qrm5_11 Z a1 tb kd vs cz h0 n0 _ T5.heap _
    rw [e5]
    exact ⟨rfl, N5, rfl⟩
def Qrm5_12 (Z : State) (a1 tb : Addr) (kd : ClassId) (vs : List Value) (cz : Int32) (h0 : Heap) (n0 : Nat) (v : Option Value) (h : Heap) (L : List Loc) : Prop := v = some (.int 2) ∧ Fr n0 L ∧ h = h0

theorem rm5_12 (l : Launch) (Z : State) (a0 : Array Value) (hw : HW a0 Z) (ws : List Jvm.Cond) (a1 tb : Addr) (kd : ClassId) (vs : List Value) (cz : Int32) (h0 : Heap) (n0 : Nat) (Z0 : n0 ≤ h0.size) (E_a1 : exa0 Z h0 a1) (Fv_a1 : fld1 Z h0 a1 (.ref tb)) (Fc_a1 : fld0 Z h0 a1 (.int 1)) (V_tb : Arv Z h0 tb kd .byte (4 : Int32) vs (.int 0)) (sC : sta4 Z h0 (.int cz)) (hCS : ¬ (cz = (0 : Int32))) :
    MF l Z h0 mn0 kb19 1 (some .int) ws ro1 #[(.ref a1)] (Qrm5_12 Z a1 tb kd vs cz h0 n0) := by
  refine own_go "java/lang/String" rfl #[rv a1] (fun m => ef_5 m a1) (plainFor_of_name pn_4) ?_
  intro p e s m below meth c s₁ S0 Bd hx hby hml hown hZ X0 e0 pre0
  have N0 := Fr.nil n0
  have pre1 : PQ p e below m S0 s₁ 1 #[rv a1] [(.ref a1)] := by
    intro t kt
    refine pre0 t ?_
    refine ow_aloadN X0.here hx hby d5_0 rfl rfl ?_
    exact kt
  obtain ⟨T2, X2, e2, pre2⟩ := ow_getF pre1 X0 hx hZ hown (host := "") (Or.inl (wi hw 35 rfl)) Via.refl e0 Fv_a1 hby d5_1
  have pre4 : PQ p e below m S0 T2 6 #[rv a1] [(.ref a1), (.int 4)] := by
    intro t kt
    refine pre2 t ?_
    obtain ⟨cl3, Ar3, -, S3, M3, -, -⟩ := (id V_tb)
    refine X2.arraylength hx (by rw [e2]; exact Ar3.1) (State.isArrayOf_alike hZ.alike Ar3.2.1) (g := (mkF m 4 #[rv a1] [(.ref tb)])) rfl rfl (hb hby d5_4) _ ?_
    rw [len_of S3 M3]
    show SQ p e below m T2 5 #[rv a1] [(.int 4)] _
    refine ow_aloadN X2.here hx hby d5_5 rfl rfl ?_
    exact kt
  obtain ⟨cq5, kq5, q5a, q5b, q5c⟩ := isOf hZ e2 E_a1
  obtain ⟨_, _, ⟨T5, L5, k5, n5⟩, -, X5, ⟨Lc5, hQ5, l5, y5, z5⟩, st5⟩ := X2.virtualBack hx (y := mn5) (z := mn5) hown (mw hZ hw 36 rfl) (mw hZ hw 37 rfl) (notFace_of_selects (args := #[]) (mw hZ hw 39 rfl)) (mw hZ hw 39 rfl) (mw hZ hw 38 rfl) (by decide) (backOf (W := 1) (rm6_1 l Z a0 hw [] a1 cz h0 n0 Z0 sC Fc_a1 (hCS)) hZ (wi hw 40 rfl) (wi hw 5 rfl) (by decide) (by decide)) q5a q5c (g := (mkF m 6 #[rv a1] [(.ref a1), (.int 4)])) rfl (by rw [hml]; rfl) (Steps.refl _) (argsL := []) (rest := [(.int 4)]) (lenOf pd_5 rfl) rfl (by show 2 * 0 + _ ≤ _; exact Nat.le_of_eq rfl) (hb hby d5_6) (fun _ _ => ⟨rfl, e2, (Nat.zero_le _), (Nat.zero_le _)⟩)
  dsimp only [Pt.U, Pt.locs, Pt.cells, Pt.slots] at X5 l5 y5 z5 st5 hQ5
  subst l5 y5 z5
  obtain ⟨rfl, N5q, e5⟩ := hQ5
  have N5 := Fr.app N0 N5q
  have pre5 : PQ p e below m S0 T5 9 #[rv a1] [(.int 1), (.int 4)] := fun t kt => pre4 t (st5.trans kt)
  have pre6 : PQ p e below m S0 T5 10 #[rv a1] [(.int 2)] := by
    intro t kt
    refine pre5 t ?_
    refine XS.ishr X5.here hx rfl (hb hby d5_9) rfl ?_
    exact kt
  obtain ⟨fs, hr, hu, hd, hW, hme⟩ := X5.leave (v := some (.int 2)) (fun h => by rw [Bd.returns] at h; cases h)
  refine ⟨_, _, pre6 _ ?_, hu, hd, _, _, rfl, ?_, ⟨_, rfl⟩, hW, hme.mono (by decide) (by decide)⟩
  · show SQ p e below m T5 10 #[rv a1] [(.int 2)] _
    exact retI X5 hx Bd.returns (hb hby d5_10) hr
  · show Qrm5_12 Z a1 tb kd vs cz h0 n0 _ T5.heap _
    rw [e5]
    exact ⟨rfl, N5, rfl⟩
def Qrm14_010 (Z : State) (a1 : Addr) (p2 : Int32) (tb : Addr) (kd : ClassId) (x0 cz : Int32) (fm : Value) (h0 : Heap) (n0 : Nat) (v : Option Value) (h : Heap) (L : List Loc) : Prop := v = some (.int (own_c8 x0)) ∧ Fr n0 L ∧ h = h0
theorem d14_0 : decode kb11 0 = .ok (.aload_n 0, 1) := by decide +kernel
theorem d14_1 : decode kb11 1 = .ok (.invokevirtual 492, 3) := by decide +kernel
theorem d14_4 : decode kb11 4 = .ok (.ifCond .eq 12, 3) := by decide +kernel
theorem d14_7 : decode kb11 7 = .ok (.aload_n 0, 1) := by decide +kernel
theorem d14_8 : decode kb11 8 = .ok (.getfield 9, 3) := by decide +kernel
theorem d14_11 : decode kb11 11 = .ok (.iload_n 1, 1) := by decide +kernel
theorem d14_12 : decode kb11 12 = .ok (.invokestatic 495, 3) := by decide +kernel
theorem d14_15 : decode kb11 15 = .ok (.ireturn, 1) := by decide +kernel
theorem ef_14 (m : MethodId) (x0 : Addr) (x1 : Int32) : entryFrame m #[(.ref x0), (.int x1)] 2 = mkF m 0 #[rv x0, iv x1] [] := by first | (simp [entryFrame, mkF, argsToLocals, Value.category]; done) | rfl
theorem rm14_010 (l : Launch) (Z : State) (a0 : Array Value) (hw : HW a0 Z) (ws : List Jvm.Cond) (a1 : Addr) (p2 : Int32) (tb : Addr) (kd : ClassId) (x0 cz : Int32) (fm : Value) (h0 : Heap) (n0 : Nat) (Z0 : n0 ≤ h0.size) (E_a1 : exa0 Z h0 a1) (Fv_a1 : fld1 Z h0 a1 (.ref tb)) (Fc_a1 : fld0 Z h0 a1 (.int 0)) (V_tb : Arv Z h0 tb kd .byte (1 : Int32) [(.int x0)] (.int 0)) (sC : sta4 Z h0 (.int cz)) (sF : sta3 Z h0 fm) (hCS : ¬ (cz = (0 : Int32))) (hFM : fm.isRef = true) (hp2 : p2 = (0 : Int32)) :
    MF l Z h0 mn2 kb11 2 (some .char) ws ro2 #[(.ref a1), (.int p2)] (Qrm14_010 Z a1 p2 tb kd x0 cz fm h0 n0) := by
  refine own_go "java/lang/String" rfl #[rv a1, iv p2] (fun m => ef_14 m a1 p2) (plainFor_of_name pn_4) ?_
  intro p e s m below meth c s₁ S0 Bd hx hby hml hown hZ X0 e0 pre0
  have N0 := Fr.nil n0
  subst hp2
  have pre1 : PQ p e below m S0 s₁ 1 #[rv a1, iv 0] [(.ref a1)] := by
    intro t kt
    refine pre0 t ?_
    refine ow_aloadN X0.here hx hby d14_0 rfl rfl ?_
    exact kt
  obtain ⟨cq2, kq2, q2a, q2b, q2c⟩ := isOf hZ e0 E_a1
  obtain ⟨_, _, ⟨T2, L2, k2, n2⟩, -, X2, ⟨Lc2, hQ2, l2, y2, z2⟩, st2⟩ := X0.virtualBack hx (y := mn1) (z := mn1) hown (mw hZ hw 79 rfl) (mw hZ hw 80 rfl) (notFace_of_selects (args := #[]) (mw hZ hw 82 rfl)) (mw hZ hw 82 rfl) (mw hZ hw 81 rfl) (by decide) (backOf (W := 0) (rm15_0 l Z a0 hw [] a1 cz h0 n0 Z0 sC Fc_a1 (hCS)) hZ (wi hw 83 rfl) (wi hw 5 rfl) (by decide) (by decide)) q2a q2c (g := (mkF m 1 #[rv a1, iv 0] [(.ref a1)])) rfl (by rw [hml]; rfl) (Steps.refl _) (argsL := []) (rest := []) (lenOf pd_6 rfl) rfl (by show 2 * 0 + _ ≤ _; exact Nat.le_of_eq rfl) (hb hby d14_1) (fun _ _ => ⟨rfl, e0, (Nat.zero_le _), (Nat.zero_le _)⟩)
  dsimp only [Pt.U, Pt.locs, Pt.cells, Pt.slots] at X2 l2 y2 z2 st2 hQ2
  subst l2 y2 z2
  obtain ⟨rfl, N2q, e2⟩ := hQ2
  have N2 := Fr.app N0 N2q
  have pre2 : PQ p e below m S0 T2 4 #[rv a1, iv 0] [(.int 1)] := fun t kt => pre1 t (st2.trans kt)
  have pre3 : PQ p e below m S0 T2 8 #[rv a1, iv 0] [(.ref a1)] := by
    intro t kt
    refine pre2 t ?_
    refine ow_ifNo X2.here hx hby d14_4 ((if0 _ _).trans (feq (by decide)).1) ?_
    refine ow_aloadN X2.here hx hby d14_7 rfl rfl ?_
    exact kt
  obtain ⟨T4, X4, e4, pre4⟩ := ow_getF pre3 X2 hx hZ hown (host := "") (Or.inl (wi hw 35 rfl)) Via.refl e2 Fv_a1 hby d14_8
  have pre5 : PQ p e below m S0 T4 12 #[rv a1, iv 0] [(.int 0), (.ref tb)] := by
    intro t kt
    refine pre4 t ?_
    refine ow_iloadN X4.here hx hby d14_11 rfl ?_
    exact kt
  obtain ⟨_, _, ⟨T6, L6, k6, n6⟩, -, X6, ⟨Lc6, hQ6, l6, y6, z6⟩, st6⟩ := Jvm.LawKit.callS X4 hx (y := mn17) hown (mw hZ hw 84 rfl) (mw hZ hw 85 rfl) (mw hZ hw 60 rfl) (mw hZ hw 86 rfl) (by decide) (backOf (W := 0) (rm16_10 l Z a0 hw [] tb (0 : Int32) kd x0 fm h0 n0 Z0 V_tb sF (hFM) (rfl)) hZ (wi hw 86 rfl) (wi hw 60 rfl) (by decide) (by decide)) (g := (mkF m 12 #[rv a1, iv 0] [(.int 0), (.ref tb)])) rfl (by rw [hml]; rfl) (argsL := [(.ref tb), (.int 0)]) (rest := []) (lenOf pd_4 rfl) rfl (by show 2 * 0 + _ ≤ _; exact Nat.le_of_eq rfl) (hb hby d14_12) (fun _ _ => ⟨rfl, e4, (Nat.zero_le _), (Nat.zero_le _)⟩)
  dsimp only [Pt.U, Pt.locs, Pt.cells, Pt.slots] at X6 l6 y6 z6 st6 hQ6
  subst l6 y6 z6
  obtain ⟨rfl, N6q, e6⟩ := hQ6
  have N6 := Fr.app N2 N6q
  have pre6 : PQ p e below m S0 T6 15 #[rv a1, iv 0] [(.int (own_c8 x0))] := fun t kt => pre5 t (st6 _ kt)
  have hres : (nar .char (own_c8 x0)) = (own_c8 x0) := own_nc _
  obtain ⟨fs, hr, hu, hd, hW, hme⟩ := X6.leave (v := some (.int (nar .char (own_c8 x0)))) (fun h => by rw [Bd.returns] at h; cases h)
  refine ⟨_, _, pre6 _ ?_, hu, hd, _, _, rfl, ?_, ⟨_, rfl⟩, hW, hme.mono (by decide) (by decide)⟩
  · show SQ p e below m T6 15 #[rv a1, iv 0] [(.int (own_c8 x0))] _
    exact retN X6 hx (t := .char) Bd.returns (by simp) (hb hby d14_15) hr
  · show Qrm14_010 Z a1 (0 : Int32) tb kd x0 cz fm h0 n0 _ T6.heap _
    rw [e6]
    exact ⟨congrArg some (congrArg Value.int hres), N6, rfl⟩
def Qrm14_020 (Z : State) (a1 : Addr) (p2 : Int32) (tb : Addr) (kd : ClassId) (x0 x1 cz : Int32) (fm : Value) (h0 : Heap) (n0 : Nat) (v : Option Value) (h : Heap) (L : List Loc) : Prop := v = some (.int (own_c8 x0)) ∧ Fr n0 L ∧ h = h0

theorem rm14_020 (l : Launch) (Z : State) (a0 : Array Value) (hw : HW a0 Z) (ws : List Jvm.Cond) (a1 : Addr) (p2 : Int32) (tb : Addr) (kd : ClassId) (x0 x1 cz : Int32) (fm : Value) (h0 : Heap) (n0 : Nat) (Z0 : n0 ≤ h0.size) (E_a1 : exa0 Z h0 a1) (Fv_a1 : fld1 Z h0 a1 (.ref tb)) (Fc_a1 : fld0 Z h0 a1 (.int 0)) (V_tb : Arv Z h0 tb kd .byte (2 : Int32) [(.int x0), (.int x1)] (.int 0)) (sC : sta4 Z h0 (.int cz)) (sF : sta3 Z h0 fm) (hCS : ¬ (cz = (0 : Int32))) (hFM : fm.isRef = true) (hp2 : p2 = (0 : Int32)) :
    MF l Z h0 mn2 kb11 2 (some .char) ws ro2 #[(.ref a1), (.int p2)] (Qrm14_020 Z a1 p2 tb kd x0 x1 cz fm h0 n0) := by
  refine own_go "java/lang/String" rfl #[rv a1, iv p2] (fun m => ef_14 m a1 p2) (plainFor_of_name pn_4) ?_
  intro p e s m below meth c s₁ S0 Bd hx hby hml hown hZ X0 e0 pre0
  have N0 := Fr.nil n0
  subst hp2
  have pre1 : PQ p e below m S0 s₁ 1 #[rv a1, iv 0] [(.ref a1)] := by
    intro t kt
    refine pre0 t ?_
    refine ow_aloadN X0.here hx hby d14_0 rfl rfl ?_
    exact kt
  obtain ⟨cq2, kq2, q2a, q2b, q2c⟩ := isOf hZ e0 E_a1
  obtain ⟨_, _, ⟨T2, L2, k2, n2⟩, -, X2, ⟨Lc2, hQ2, l2, y2, z2⟩, st2⟩ := X0.virtualBack hx (y := mn1) (z := mn1) hown (mw hZ hw 79 rfl) (mw hZ hw 80 rfl) (notFace_of_selects (args := #[]) (mw hZ hw 82 rfl)) (mw hZ hw 82 rfl) (mw hZ hw 81 rfl) (by decide) (backOf (W := 0) (rm15_0 l Z a0 hw [] a1 cz h0 n0 Z0 sC Fc_a1 (hCS)) hZ (wi hw 83 rfl) (wi hw 5 rfl) (by decide) (by decide)) q2a q2c (g := (mkF m 1 #[rv a1, iv 0] [(.ref a1)])) rfl (by rw [hml]; rfl) (Steps.refl _) (argsL := []) (rest := []) (lenOf pd_6 rfl) rfl (by show 2 * 0 + _ ≤ _; exact Nat.le_of_eq rfl) (hb hby d14_1) (fun _ _ => ⟨rfl, e0, (Nat.zero_le _), (Nat.zero_le _)⟩)
  dsimp only [Pt.U, Pt.locs, Pt.cells, Pt.slots] at X2 l2 y2 z2 st2 hQ2
  subst l2 y2 z2
  obtain ⟨rfl, N2q, e2⟩ := hQ2
  have N2 := Fr.app N0 N2q
  have pre2 : PQ p e below m S0 T2 4 #[rv a1, iv 0] [(.int 1)] := fun t kt => pre1 t (st2.trans kt)
  have pre3 : PQ p e below m S0 T2 8 #[rv a1, iv 0] [(.ref a1)] := by
    intro t kt
    refine pre2 t ?_
    refine ow_ifNo X2.here hx hby d14_4 ((if0 _ _).trans (feq (by decide)).1) ?_
    refine ow_aloadN X2.here hx hby d14_7 rfl rfl ?_
    exact kt
  obtain ⟨T4, X4, e4, pre4⟩ := ow_getF pre3 X2 hx hZ hown (host := "") (Or.inl (wi hw 35 rfl)) Via.refl e2 Fv_a1 hby d14_8
  have pre5 : PQ p e below m S0 T4 12 #[rv a1, iv 0] [(.int 0), (.ref tb)] := by
    intro t kt
    refine pre4 t ?_
    refine ow_iloadN X4.here hx hby d14_11 rfl ?_
    exact kt
  obtain ⟨_, _, ⟨T6, L6, k6, n6⟩, -, X6, ⟨Lc6, hQ6, l6, y6, z6⟩, st6⟩ := Jvm.LawKit.callS X4 hx (y := mn17) hown (mw hZ hw 84 rfl) (mw hZ hw 85 rfl) (mw hZ hw 60 rfl) (mw hZ hw 86 rfl) (by decide) (backOf (W := 0) (rm16_20 l Z a0 hw [] tb (0 : Int32) kd x0 x1 fm h0 n0 Z0 V_tb sF (hFM) (rfl)) hZ (wi hw 86 rfl) (wi hw 60 rfl) (by decide) (by decide)) (g := (mkF m 12 #[rv a1, iv 0] [(.int 0), (.ref tb)])) rfl (by rw [hml]; rfl) (argsL := [(.ref tb), (.int 0)]) (rest := []) (lenOf pd_4 rfl) rfl (by show 2 * 0 + _ ≤ _; exact Nat.le_of_eq rfl) (hb hby d14_12) (fun _ _ => ⟨rfl, e4, (Nat.zero_le _), (Nat.zero_le _)⟩)
  dsimp only [Pt.U, Pt.locs, Pt.cells, Pt.slots] at X6 l6 y6 z6 st6 hQ6
  subst l6 y6 z6
  obtain ⟨rfl, N6q, e6⟩ := hQ6
  have N6 := Fr.app N2 N6q
  have pre6 : PQ p e below m S0 T6 15 #[rv a1, iv 0] [(.int (own_c8 x0))] := fun t kt => pre5 t (st6 _ kt)
  have hres : (nar .char (own_c8 x0)) = (own_c8 x0) := own_nc _
  obtain ⟨fs, hr, hu, hd, hW, hme⟩ := X6.leave (v := some (.int (nar .char (own_c8 x0)))) (fun h => by rw [Bd.returns] at h; cases h)
  refine ⟨_, _, pre6 _ ?_, hu, hd, _, _, rfl, ?_, ⟨_, rfl⟩, hW, hme.mono (by decide) (by decide)⟩
  · show SQ p e below m T6 15 #[rv a1, iv 0] [(.int (own_c8 x0))] _
    exact retN X6 hx (t := .char) Bd.returns (by simp) (hb hby d14_15) hr
  · show Qrm14_020 Z a1 (0 : Int32) tb kd x0 x1 cz fm h0 n0 _ T6.heap _
    rw [e6]
    exact ⟨congrArg some (congrArg Value.int hres), N6, rfl⟩
def Qrm14_021 (Z : State) (a1 : Addr) (p2 : Int32) (tb : Addr) (kd : ClassId) (x0 x1 cz : Int32) (fm : Value) (h0 : Heap) (n0 : Nat) (v : Option Value) (h : Heap) (L : List Loc) : Prop := v = some (.int (own_c8 x1)) ∧ Fr n0 L ∧ h = h0

theorem rm14_021 (l : Launch) (Z : State) (a0 : Array Value) (hw : HW a0 Z) (ws : List Jvm.Cond) (a1 : Addr) (p2 : Int32) (tb : Addr) (kd : ClassId) (x0 x1 cz : Int32) (fm : Value) (h0 : Heap) (n0 : Nat) (Z0 : n0 ≤ h0.size) (E_a1 : exa0 Z h0 a1) (Fv_a1 : fld1 Z h0 a1 (.ref tb)) (Fc_a1 : fld0 Z h0 a1 (.int 0)) (V_tb : Arv Z h0 tb kd .byte (2 : Int32) [(.int x0), (.int x1)] (.int 0)) (sC : sta4 Z h0 (.int cz)) (sF : sta3 Z h0 fm) (hCS : ¬ (cz = (0 : Int32))) (hFM : fm.isRef = true) (hp2 : p2 = (1 : Int32)) :
    MF l Z h0 mn2 kb11 2 (some .char) ws ro2 #[(.ref a1), (.int p2)] (Qrm14_021 Z a1 p2 tb kd x0 x1 cz fm h0 n0) := by
  refine own_go "java/lang/String" rfl #[rv a1, iv p2] (fun m => ef_14 m a1 p2) (plainFor_of_name pn_4) ?_
  intro p e s m below meth c s₁ S0 Bd hx hby hml hown hZ X0 e0 pre0
  have N0 := Fr.nil n0
  subst hp2
  have pre1 : PQ p e below m S0 s₁ 1 #[rv a1, iv 1] [(.ref a1)] := by
    intro t kt
    refine pre0 t ?_
    refine ow_aloadN X0.here hx hby d14_0 rfl rfl ?_
    exact kt
  obtain ⟨cq2, kq2, q2a, q2b, q2c⟩ := isOf hZ e0 E_a1
  obtain ⟨_, _, ⟨T2, L2, k2, n2⟩, -, X2, ⟨Lc2, hQ2, l2, y2, z2⟩, st2⟩ := X0.virtualBack hx (y := mn1) (z := mn1) hown (mw hZ hw 79 rfl) (mw hZ hw 80 rfl) (notFace_of_selects (args := #[]) (mw hZ hw 82 rfl)) (mw hZ hw 82 rfl) (mw hZ hw 81 rfl) (by decide) (backOf (W := 0) (rm15_0 l Z a0 hw [] a1 cz h0 n0 Z0 sC Fc_a1 (hCS)) hZ (wi hw 83 rfl) (wi hw 5 rfl) (by decide) (by decide)) q2a q2c (g := (mkF m 1 #[rv a1, iv 1] [(.ref a1)])) rfl (by rw [hml]; rfl) (Steps.refl _) (argsL := []) (rest := []) (lenOf pd_6 rfl) rfl (by show 2 * 0 + _ ≤ _; exact Nat.le_of_eq rfl) (hb hby d14_1) (fun _ _ => ⟨rfl, e0, (Nat.zero_le _), (Nat.zero_le _)⟩)
  dsimp only [Pt.U, Pt.locs, Pt.cells, Pt.slots] at X2 l2 y2 z2 st2 hQ2
  subst l2 y2 z2
  obtain ⟨rfl, N2q, e2⟩ := hQ2
  have N2 := Fr.app N0 N2q
  have pre2 : PQ p e below m S0 T2 4 #[rv a1, iv 1] [(.int 1)] := fun t kt => pre1 t (st2.trans kt)
  have pre3 : PQ p e below m S0 T2 8 #[rv a1, iv 1] [(.ref a1)] := by
    intro t kt
    refine pre2 t ?_
    refine ow_ifNo X2.here hx hby d14_4 ((if0 _ _).trans (feq (by decide)).1) ?_
    refine ow_aloadN X2.here hx hby d14_7 rfl rfl ?_
    exact kt
  obtain ⟨T4, X4, e4, pre4⟩ := ow_getF pre3 X2 hx hZ hown (host := "") (Or.inl (wi hw 35 rfl)) Via.refl e2 Fv_a1 hby d14_8
  have pre5 : PQ p e below m S0 T4 12 #[rv a1, iv 1] [(.int 1), (.ref tb)] := by
    intro t kt
    refine pre4 t ?_
    refine ow_iloadN X4.here hx hby d14_11 rfl ?_
    exact kt
  obtain ⟨_, _, ⟨T6, L6, k6, n6⟩, -, X6, ⟨Lc6, hQ6, l6, y6, z6⟩, st6⟩ := Jvm.LawKit.callS X4 hx (y := mn17) hown (mw hZ hw 84 rfl) (mw hZ hw 85 rfl) (mw hZ hw 60 rfl) (mw hZ hw 86 rfl) (by decide) (backOf (W := 0) (rm16_21 l Z a0 hw [] tb (1 : Int32) kd x0 x1 fm h0 n0 Z0 V_tb sF (hFM) (rfl)) hZ (wi hw 86 rfl) (wi hw 60 rfl) (by decide) (by decide)) (g := (mkF m 12 #[rv a1, iv 1] [(.int 1), (.ref tb)])) rfl (by rw [hml]; rfl) (argsL := [(.ref tb), (.int 1)]) (rest := []) (lenOf pd_4 rfl) rfl (by show 2 * 0 + _ ≤ _; exact Nat.le_of_eq rfl) (hb hby d14_12) (fun _ _ => ⟨rfl, e4, (Nat.zero_le _), (Nat.zero_le _)⟩)
  dsimp only [Pt.U, Pt.locs, Pt.cells, Pt.slots] at X6 l6 y6 z6 st6 hQ6
  subst l6 y6 z6
  obtain ⟨rfl, N6q, e6⟩ := hQ6
  have N6 := Fr.app N2 N6q
  have pre6 : PQ p e below m S0 T6 15 #[rv a1, iv 1] [(.int (own_c8 x1))] := fun t kt => pre5 t (st6 _ kt)
  have hres : (nar .char (own_c8 x1)) = (own_c8 x1) := own_nc _
  obtain ⟨fs, hr, hu, hd, hW, hme⟩ := X6.leave (v := some (.int (nar .char (own_c8 x1)))) (fun h => by rw [Bd.returns] at h; cases h)
  refine ⟨_, _, pre6 _ ?_, hu, hd, _, _, rfl, ?_, ⟨_, rfl⟩, hW, hme.mono (by decide) (by decide)⟩
  · show SQ p e below m T6 15 #[rv a1, iv 1] [(.int (own_c8 x1))] _
    exact retN X6 hx (t := .char) Bd.returns (by simp) (hb hby d14_15) hr
  · show Qrm14_021 Z a1 (1 : Int32) tb kd x0 x1 cz fm h0 n0 _ T6.heap _
    rw [e6]
    exact ⟨congrArg some (congrArg Value.int hres), N6, rfl⟩
def Qrm14_110 (Z : State) (a1 : Addr) (p2 : Int32) (tb : Addr) (kd : ClassId) (x0 x1 cz : Int32) (fm : Value) (h0 : Heap) (n0 : Nat) (v : Option Value) (h : Heap) (L : List Loc) : Prop := v = some (.int (own_pr x0 x1)) ∧ Fr n0 L ∧ h = h0
theorem d14_16 : decode kb11 16 = .ok (.aload_n 0, 1) := by decide +kernel
theorem d14_17 : decode kb11 17 = .ok (.getfield 9, 3) := by decide +kernel
theorem d14_20 : decode kb11 20 = .ok (.iload_n 1, 1) := by decide +kernel
theorem d14_21 : decode kb11 21 = .ok (.invokestatic 498, 3) := by decide +kernel
theorem d14_24 : decode kb11 24 = .ok (.ireturn, 1) := by decide +kernel

theorem rm14_110 (l : Launch) (Z : State) (a0 : Array Value) (hw : HW a0 Z) (ws : List Jvm.Cond) (a1 : Addr) (p2 : Int32) (tb : Addr) (kd : ClassId) (x0 x1 cz : Int32) (fm : Value) (h0 : Heap) (n0 : Nat) (Z0 : n0 ≤ h0.size) (E_a1 : exa0 Z h0 a1) (Fv_a1 : fld1 Z h0 a1 (.ref tb)) (Fc_a1 : fld0 Z h0 a1 (.int 1)) (V_tb : Arv Z h0 tb kd .byte (2 : Int32) [(.int x0), (.int x1)] (.int 0)) (sC : sta4 Z h0 (.int cz)) (sF : sta3 Z h0 fm) (sA : sta0 Z h0 (.int 1)) (sH : sta1 Z h0 (.int 0)) (sL : sta2 Z h0 (.int 8)) (hCS : ¬ (cz = (0 : Int32))) (hFM : fm.isRef = true) (hp2 : p2 = (0 : Int32)) :
    MF l Z h0 mn2 kb11 2 (some .char) ws ro2 #[(.ref a1), (.int p2)] (Qrm14_110 Z a1 p2 tb kd x0 x1 cz fm h0 n0) := by
  refine own_go "java/lang/String" rfl #[rv a1, iv p2] (fun m => ef_14 m a1 p2) (plainFor_of_name pn_4) ?_
  intro p e s m below meth c s₁ S0 Bd hx hby hml hown hZ X0 e0 pre0
  have N0 := Fr.nil n0
  subst hp2
  have pre1 : PQ p e below m S0 s₁ 1 #[rv a1, iv 0] [(.ref a1)] := by
    intro t kt
    refine pre0 t ?_
    refine ow_aloadN X0.here hx hby d14_0 rfl rfl ?_
    exact kt
  obtain ⟨cq2, kq2, q2a, q2b, q2c⟩ := isOf hZ e0 E_a1
  obtain ⟨_, _, ⟨T2, L2, k2, n2⟩, -, X2, ⟨Lc2, hQ2, l2, y2, z2⟩, st2⟩ := X0.virtualBack hx (y := mn1) (z := mn1) hown (mw hZ hw 79 rfl) (mw hZ hw 80 rfl) (notFace_of_selects (args := #[]) (mw hZ hw 82 rfl)) (mw hZ hw 82 rfl) (mw hZ hw 81 rfl) (by decide) (backOf (W := 0) (rm15_1 l Z a0 hw [] a1 cz h0 n0 Z0 sC Fc_a1 (hCS)) hZ (wi hw 83 rfl) (wi hw 5 rfl) (by decide) (by decide)) q2a q2c (g := (mkF m 1 #[rv a1, iv 0] [(.ref a1)])) rfl (by rw [hml]; rfl) (Steps.refl _) (argsL := []) (rest := []) (lenOf pd_6 rfl) rfl (by show 2 * 0 + _ ≤ _; exact Nat.le_of_eq rfl) (hb hby d14_1) (fun _ _ => ⟨rfl, e0, (Nat.zero_le _), (Nat.zero_le _)⟩)
  dsimp only [Pt.U, Pt.locs, Pt.cells, Pt.slots] at X2 l2 y2 z2 st2 hQ2
  subst l2 y2 z2
  obtain ⟨rfl, N2q, e2⟩ := hQ2
  have N2 := Fr.app N0 N2q
  have pre2 : PQ p e below m S0 T2 4 #[rv a1, iv 0] [(.int 0)] := fun t kt => pre1 t (st2.trans kt)
  have pre3 : PQ p e below m S0 T2 17 #[rv a1, iv 0] [(.ref a1)] := by
    intro t kt
    refine pre2 t ?_
    refine ow_ifYes X2.here hx hby d14_4 ((if0 _ _).trans (teq (by decide)).1) (pc' := 16) (by decide) (by decide) ?_
    refine ow_aloadN X2.here hx hby d14_16 rfl rfl ?_
    exact kt
  obtain ⟨T4, X4, e4, pre4⟩ := ow_getF pre3 X2 hx hZ hown (host := "") (Or.inl (wi hw 35 rfl)) Via.refl e2 Fv_a1 hby d14_17
  have pre5 : PQ p e below m S0 T4 21 #[rv a1, iv 0] [(.int 0), (.ref tb)] := by
    intro t kt
    refine pre4 t ?_
    refine ow_iloadN X4.here hx hby d14_20 rfl ?_
    exact kt
  obtain ⟨_, _, ⟨T6, L6, k6, n6⟩, -, X6, ⟨Lc6, hQ6, l6, y6, z6⟩, st6⟩ := Jvm.LawKit.callS X4 hx (y := mn16) hown (mw hZ hw 141 rfl) (mw hZ hw 142 rfl) (mw hZ hw 114 rfl) (mw hZ hw 143 rfl) (by decide) (backOf (W := 0) (rm31_10 l Z a0 hw [] tb (0 : Int32) kd x0 x1 fm h0 n0 Z0 V_tb sF sA sH sL (hFM) (rfl)) hZ (wi hw 143 rfl) (wi hw 114 rfl) (by decide) (by decide)) (g := (mkF m 21 #[rv a1, iv 0] [(.int 0), (.ref tb)])) rfl (by rw [hml]; rfl) (argsL := [(.ref tb), (.int 0)]) (rest := []) (lenOf pd_4 rfl) rfl (by show 2 * 0 + _ ≤ _; exact Nat.le_of_eq rfl) (hb hby d14_21) (fun _ _ => ⟨rfl, e4, (Nat.zero_le _), (Nat.zero_le _)⟩)
  dsimp only [Pt.U, Pt.locs, Pt.cells, Pt.slots] at X6 l6 y6 z6 st6 hQ6
  subst l6 y6 z6
  obtain ⟨rfl, N6q, e6⟩ := hQ6
  have N6 := Fr.app N2 N6q
  have pre6 : PQ p e below m S0 T6 24 #[rv a1, iv 0] [(.int (own_pr x0 x1))] := fun t kt => pre5 t (st6 _ kt)
  have hres : (nar .char (own_pr x0 x1)) = (own_pr x0 x1) := own_nc _
  obtain ⟨fs, hr, hu, hd, hW, hme⟩ := X6.leave (v := some (.int (nar .char (own_pr x0 x1)))) (fun h => by rw [Bd.returns] at h; cases h)
  refine ⟨_, _, pre6 _ ?_, hu, hd, _, _, rfl, ?_, ⟨_, rfl⟩, hW, hme.mono (by decide) (by decide)⟩
  · show SQ p e below m T6 24 #[rv a1, iv 0] [(.int (own_pr x0 x1))] _
    exact retN X6 hx (t := .char) Bd.returns (by simp) (hb hby d14_24) hr
  · show Qrm14_110 Z a1 (0 : Int32) tb kd x0 x1 cz fm h0 n0 _ T6.heap _
    rw [e6]
    exact ⟨congrArg some (congrArg Value.int hres), N6, rfl⟩
def Qrm14_120 (Z : State) (a1 : Addr) (p2 : Int32) (tb : Addr) (kd : ClassId) (x0 x1 : Int32) (x2 x3 cz : Int32) (fm : Value) (h0 : Heap) (n0 : Nat) (v : Option Value) (h : Heap) (L : List Loc) : Prop := v = some (.int (own_pr x0 x1)) ∧ Fr n0 L ∧ h = h0

theorem rm14_120 (l : Launch) (Z : State) (a0 : Array Value) (hw : HW a0 Z) (ws : List Jvm.Cond) (a1 : Addr) (p2 : Int32) (tb : Addr) (kd : ClassId) (x0 x1 : Int32) (x2 x3 cz : Int32) (fm : Value) (h0 : Heap) (n0 : Nat) (Z0 : n0 ≤ h0.size) (E_a1 : exa0 Z h0 a1) (Fv_a1 : fld1 Z h0 a1 (.ref tb)) (Fc_a1 : fld0 Z h0 a1 (.int 1)) (V_tb : Arv Z h0 tb kd .byte (4 : Int32) [(.int x0), (.int x1), (.int x2), (.int x3)] (.int 0)) (sC : sta4 Z h0 (.int cz)) (sF : sta3 Z h0 fm) (sA : sta0 Z h0 (.int 1)) (sH : sta1 Z h0 (.int 0)) (sL : sta2 Z h0 (.int 8)) (hCS : ¬ (cz = (0 : Int32))) (hFM : fm.isRef = true) (hp2 : p2 = (0 : Int32)) :
    MF l Z h0 mn2 kb11 2 (some .char) ws ro2 #[(.ref a1), (.int p2)] (Qrm14_120 Z a1 p2 tb kd x0 x1 x2 x3 cz fm h0 n0) := by
  refine own_go "java/lang/String" rfl #[rv a1, iv p2] (fun m => ef_14 m a1 p2) (plainFor_of_name pn_4) ?_
  intro p e s m below meth c s₁ S0 Bd hx hby hml hown hZ X0 e0 pre0
  have N0 := Fr.nil n0
  subst hp2
  have pre1 : PQ p e below m S0 s₁ 1 #[rv a1, iv 0] [(.ref a1)] := by
    intro t kt
    refine pre0 t ?_
    refine ow_aloadN X0.here hx hby d14_0 rfl rfl ?_
    exact kt
  obtain ⟨cq2, kq2, q2a, q2b, q2c⟩ := isOf hZ e0 E_a1
  obtain ⟨_, _, ⟨T2, L2, k2, n2⟩, -, X2, ⟨Lc2, hQ2, l2, y2, z2⟩, st2⟩ := X0.virtualBack hx (y := mn1) (z := mn1) hown (mw hZ hw 79 rfl) (mw hZ hw 80 rfl) (notFace_of_selects (args := #[]) (mw hZ hw 82 rfl)) (mw hZ hw 82 rfl) (mw hZ hw 81 rfl) (by decide) (backOf (W := 0) (rm15_1 l Z a0 hw [] a1 cz h0 n0 Z0 sC Fc_a1 (hCS)) hZ (wi hw 83 rfl) (wi hw 5 rfl) (by decide) (by decide)) q2a q2c (g := (mkF m 1 #[rv a1, iv 0] [(.ref a1)])) rfl (by rw [hml]; rfl) (Steps.refl _) (argsL := []) (rest := []) (lenOf pd_6 rfl) rfl (by show 2 * 0 + _ ≤ _; exact Nat.le_of_eq rfl) (hb hby d14_1) (fun _ _ => ⟨rfl, e0, (Nat.zero_le _), (Nat.zero_le _)⟩)
  dsimp only [Pt.U, Pt.locs, Pt.cells, Pt.slots] at X2 l2 y2 z2 st2 hQ2
  subst l2 y2 z2
  obtain ⟨rfl, N2q, e2⟩ := hQ2
  have N2 := Fr.app N0 N2q
  have pre2 : PQ p e below m S0 T2 4 #[rv a1, iv 0] [(.int 0)] := fun t kt => pre1 t (st2.trans kt)
  have pre3 : PQ p e below m S0 T2 17 #[rv a1, iv 0] [(.ref a1)] := by
    intro t kt
    refine pre2 t ?_
    refine ow_ifYes X2.here hx hby d14_4 ((if0 _ _).trans (teq (by decide)).1) (pc' := 16) (by decide) (by decide) ?_
    refine ow_aloadN X2.here hx hby d14_16 rfl rfl ?_
    exact kt
  obtain ⟨T4, X4, e4, pre4⟩ := ow_getF pre3 X2 hx hZ hown (host := "") (Or.inl (wi hw 35 rfl)) Via.refl e2 Fv_a1 hby d14_17
  have pre5 : PQ p e below m S0 T4 21 #[rv a1, iv 0] [(.int 0), (.ref tb)] := by
    intro t kt
    refine pre4 t ?_
    refine ow_iloadN X4.here hx hby d14_20 rfl ?_
    exact kt
  obtain ⟨_, _, ⟨T6, L6, k6, n6⟩, -, X6, ⟨Lc6, hQ6, l6, y6, z6⟩, st6⟩ := Jvm.LawKit.callS X4 hx (y := mn16) hown (mw hZ hw 141 rfl) (mw hZ hw 142 rfl) (mw hZ hw 114 rfl) (mw hZ hw 143 rfl) (by decide) (backOf (W := 0) (rm31_20 l Z a0 hw [] tb (0 : Int32) kd x0 x1 x2 x3 fm h0 n0 Z0 V_tb sF sA sH sL (hFM) (rfl)) hZ (wi hw 143 rfl) (wi hw 114 rfl) (by decide) (by decide)) (g := (mkF m 21 #[rv a1, iv 0] [(.int 0), (.ref tb)])) rfl (by rw [hml]; rfl) (argsL := [(.ref tb), (.int 0)]) (rest := []) (lenOf pd_4 rfl) rfl (by show 2 * 0 + _ ≤ _; exact Nat.le_of_eq rfl) (hb hby d14_21) (fun _ _ => ⟨rfl, e4, (Nat.zero_le _), (Nat.zero_le _)⟩)
  dsimp only [Pt.U, Pt.locs, Pt.cells, Pt.slots] at X6 l6 y6 z6 st6 hQ6
  subst l6 y6 z6
  obtain ⟨rfl, N6q, e6⟩ := hQ6
  have N6 := Fr.app N2 N6q
  have pre6 : PQ p e below m S0 T6 24 #[rv a1, iv 0] [(.int (own_pr x0 x1))] := fun t kt => pre5 t (st6 _ kt)
  have hres : (nar .char (own_pr x0 x1)) = (own_pr x0 x1) := own_nc _
  obtain ⟨fs, hr, hu, hd, hW, hme⟩ := X6.leave (v := some (.int (nar .char (own_pr x0 x1)))) (fun h => by rw [Bd.returns] at h; cases h)
  refine ⟨_, _, pre6 _ ?_, hu, hd, _, _, rfl, ?_, ⟨_, rfl⟩, hW, hme.mono (by decide) (by decide)⟩
  · show SQ p e below m T6 24 #[rv a1, iv 0] [(.int (own_pr x0 x1))] _
    exact retN X6 hx (t := .char) Bd.returns (by simp) (hb hby d14_24) hr
  · show Qrm14_120 Z a1 (0 : Int32) tb kd x0 x1 x2 x3 cz fm h0 n0 _ T6.heap _
    rw [e6]
    exact ⟨congrArg some (congrArg Value.int hres), N6, rfl⟩
def Qrm14_121 (Z : State) (a1 : Addr) (p2 : Int32) (tb : Addr) (kd : ClassId) (x0 x1 : Int32) (x2 x3 cz : Int32) (fm : Value) (h0 : Heap) (n0 : Nat) (v : Option Value) (h : Heap) (L : List Loc) : Prop := v = some (.int (own_pr x2 x3)) ∧ Fr n0 L ∧ h = h0

theorem rm14_121 (l : Launch) (Z : State) (a0 : Array Value) (hw : HW a0 Z) (ws : List Jvm.Cond) (a1 : Addr) (p2 : Int32) (tb : Addr) (kd : ClassId) (x0 x1 : Int32) (x2 x3 cz : Int32) (fm : Value) (h0 : Heap) (n0 : Nat) (Z0 : n0 ≤ h0.size) (E_a1 : exa0 Z h0 a1) (Fv_a1 : fld1 Z h0 a1 (.ref tb)) (Fc_a1 : fld0 Z h0 a1 (.int 1)) (V_tb : Arv Z h0 tb kd .byte (4 : Int32) [(.int x0), (.int x1), (.int x2), (.int x3)] (.int 0)) (sC : sta4 Z h0 (.int cz)) (sF : sta3 Z h0 fm) (sA : sta0 Z h0 (.int 1)) (sH : sta1 Z h0 (.int 0)) (sL : sta2 Z h0 (.int 8)) (hCS : ¬ (cz = (0 : Int32))) (hFM : fm.isRef = true) (hp2 : p2 = (1 : Int32)) :
    MF l Z h0 mn2 kb11 2 (some .char) ws ro2 #[(.ref a1), (.int p2)] (Qrm14_121 Z a1 p2 tb kd x0 x1 x2 x3 cz fm h0 n0) := by
  refine own_go "java/lang/String" rfl #[rv a1, iv p2] (fun m => ef_14 m a1 p2) (plainFor_of_name pn_4) ?_
  intro p e s m below meth c s₁ S0 Bd hx hby hml hown hZ X0 e0 pre0
  have N0 := Fr.nil n0
  subst hp2
  have pre1 : PQ p e below m S0 s₁ 1 #[rv a1, iv 1] [(.ref a1)] := by
    intro t kt
    refine pre0 t ?_
    refine ow_aloadN X0.here hx hby d14_0 rfl rfl ?_
    exact kt
  obtain ⟨cq2, kq2, q2a, q2b, q2c⟩ := isOf hZ e0 E_a1
  obtain ⟨_, _, ⟨T2, L2, k2, n2⟩, -, X2, ⟨Lc2, hQ2, l2, y2, z2⟩, st2⟩ := X0.virtualBack hx (y := mn1) (z := mn1) hown (mw hZ hw 79 rfl) (mw hZ hw 80 rfl) (notFace_of_selects (args := #[]) (mw hZ hw 82 rfl)) (mw hZ hw 82 rfl) (mw hZ hw 81 rfl) (by decide) (backOf (W := 0) (rm15_1 l Z a0 hw [] a1 cz h0 n0 Z0 sC Fc_a1 (hCS)) hZ (wi hw 83 rfl) (wi hw 5 rfl) (by decide) (by decide)) q2a q2c (g := (mkF m 1 #[rv a1, iv 1] [(.ref a1)])) rfl (by rw [hml]; rfl) (Steps.refl _) (argsL := []) (rest := []) (lenOf pd_6 rfl) rfl (by show 2 * 0 + _ ≤ _; exact Nat.le_of_eq rfl) (hb hby d14_1) (fun _ _ => ⟨rfl, e0, (Nat.zero_le _), (Nat.zero_le _)⟩)
  dsimp only [Pt.U, Pt.locs, Pt.cells, Pt.slots] at X2 l2 y2 z2 st2 hQ2
  subst l2 y2 z2
  obtain ⟨rfl, N2q, e2⟩ := hQ2
  have N2 := Fr.app N0 N2q
  have pre2 : PQ p e below m S0 T2 4 #[rv a1, iv 1] [(.int 0)] := fun t kt => pre1 t (st2.trans kt)
  have pre3 : PQ p e below m S0 T2 17 #[rv a1, iv 1] [(.ref a1)] := by
    intro t kt
    refine pre2 t ?_
    refine ow_ifYes X2.here hx hby d14_4 ((if0 _ _).trans (teq (by decide)).1) (pc' := 16) (by decide) (by decide) ?_
    refine ow_aloadN X2.here hx hby d14_16 rfl rfl ?_
    exact kt
  obtain ⟨T4, X4, e4, pre4⟩ := ow_getF pre3 X2 hx hZ hown (host := "") (Or.inl (wi hw 35 rfl)) Via.refl e2 Fv_a1 hby d14_17
  have pre5 : PQ p e below m S0 T4 21 #[rv a1, iv 1] [(.int 1), (.ref tb)] := by
    intro t kt
    refine pre4 t ?_
    refine ow_iloadN X4.here hx hby d14_20 rfl ?_
    exact kt
  obtain ⟨_, _, ⟨T6, L6, k6, n6⟩, -, X6, ⟨Lc6, hQ6, l6, y6, z6⟩, st6⟩ := Jvm.LawKit.callS X4 hx (y := mn16) hown (mw hZ hw 141 rfl) (mw hZ hw 142 rfl) (mw hZ hw 114 rfl) (mw hZ hw 143 rfl) (by decide) (backOf (W := 0) (rm31_21 l Z a0 hw [] tb (1 : Int32) kd x0 x1 x2 x3 fm h0 n0 Z0 V_tb sF sA sH sL (hFM) (rfl)) hZ (wi hw 143 rfl) (wi hw 114 rfl) (by decide) (by decide)) (g := (mkF m 21 #[rv a1, iv 1] [(.int 1), (.ref tb)])) rfl (by rw [hml]; rfl) (argsL := [(.ref tb), (.int 1)]) (rest := []) (lenOf pd_4 rfl) rfl (by show 2 * 0 + _ ≤ _; exact Nat.le_of_eq rfl) (hb hby d14_21) (fun _ _ => ⟨rfl, e4, (Nat.zero_le _), (Nat.zero_le _)⟩)
  dsimp only [Pt.U, Pt.locs, Pt.cells, Pt.slots] at X6 l6 y6 z6 st6 hQ6
  subst l6 y6 z6
  obtain ⟨rfl, N6q, e6⟩ := hQ6
  have N6 := Fr.app N2 N6q
  have pre6 : PQ p e below m S0 T6 24 #[rv a1, iv 1] [(.int (own_pr x2 x3))] := fun t kt => pre5 t (st6 _ kt)
  have hres : (nar .char (own_pr x2 x3)) = (own_pr x2 x3) := own_nc _
  obtain ⟨fs, hr, hu, hd, hW, hme⟩ := X6.leave (v := some (.int (nar .char (own_pr x2 x3)))) (fun h => by rw [Bd.returns] at h; cases h)
  refine ⟨_, _, pre6 _ ?_, hu, hd, _, _, rfl, ?_, ⟨_, rfl⟩, hW, hme.mono (by decide) (by decide)⟩
  · show SQ p e below m T6 24 #[rv a1, iv 1] [(.int (own_pr x2 x3))] _
    exact retN X6 hx (t := .char) Bd.returns (by simp) (hb hby d14_24) hr
  · show Qrm14_121 Z a1 (1 : Int32) tb kd x0 x1 x2 x3 cz fm h0 n0 _ T6.heap _
    rw [e6]
    exact ⟨congrArg some (congrArg Value.int hres), N6, rfl⟩
def Qrm45_1 (Z : State) (a1 : Addr) (p2 p3 p4 : Int32) (kd : ClassId) (x0 : Int32) (h0 : Heap) (n0 : Nat) (v : Option Value) (h : Heap) (L : List Loc) : Prop := v = some (.int (own_i1 p2.toInt8.toInt32 x0)) ∧ Fr n0 L ∧ h = h0
theorem d45_0 : decode kb14 0 = .ok (.iload_n 1, 1) := by decide +kernel
theorem d45_1 : decode kb14 1 = .ok (.i2b, 1) := by decide +kernel
theorem d45_2 : decode kb14 2 = .ok (.istore 4, 2) := by decide +kernel
theorem d45_4 : decode kb14 4 = .ok (.iload_n 2, 1) := by decide +kernel
theorem d45_5 : decode kb14 5 = .ok (.istore 5, 2) := by decide +kernel
theorem d45_7 : decode kb14 7 = .ok (.iload 5, 2) := by decide +kernel
theorem d45_9 : decode kb14 9 = .ok (.iload_n 3, 1) := by decide +kernel
theorem d45_10 : decode kb14 10 = .ok (.if_icmp .ge 21, 3) := by decide +kernel
theorem d45_13 : decode kb14 13 = .ok (.aload_n 0, 1) := by decide +kernel
theorem d45_14 : decode kb14 14 = .ok (.iload 5, 2) := by decide +kernel
theorem d45_16 : decode kb14 16 = .ok (.baload, 1) := by decide +kernel
theorem d45_17 : decode kb14 17 = .ok (.iload 4, 2) := by decide +kernel
theorem d45_19 : decode kb14 19 = .ok (.if_icmp .ne 6, 3) := by decide +kernel
theorem d45_22 : decode kb14 22 = .ok (.iload 5, 2) := by decide +kernel
theorem d45_24 : decode kb14 24 = .ok (.ireturn, 1) := by decide +kernel
theorem d45_25 : decode kb14 25 = .ok (.iinc 5 1, 3) := by decide +kernel
theorem d45_28 : decode kb14 28 = .ok (.goto (-21), 3) := by decide +kernel
theorem d45_31 : decode kb14 31 = .ok (.iconst (-1), 1) := by decide +kernel
theorem d45_32 : decode kb14 32 = .ok (.ireturn, 1) := by decide +kernel
theorem ef_45 (m : MethodId) (x0 : Addr) (x1 x2 x3 : Int32) : entryFrame m #[(.ref x0), (.int x1), (.int x2), (.int x3)] 6 = mkF m 0 #[rv x0, iv x1, iv x2, iv x3, un, un] [] := by first | (simp [entryFrame, mkF, argsToLocals, Value.category]; done) | rfl
theorem rm45_1 (l : Launch) (Z : State) (a0 : Array Value) (hw : HW a0 Z) (ws : List Jvm.Cond) (a1 : Addr) (p2 p3 p4 : Int32) (kd : ClassId) (x0 : Int32) (h0 : Heap) (n0 : Nat) (Z0 : n0 ≤ h0.size) (V_a1 : Arv Z h0 a1 kd .byte (1 : Int32) [(.int x0)] (.int 0)) (hp3 : p3 = (0 : Int32)) (hp4 : p4 = (1 : Int32)) :
    MF l Z h0 mn27 kb14 6 (some .int) ws ro0 #[(.ref a1), (.int p2), (.int p3), (.int p4)] (Qrm45_1 Z a1 p2 p3 p4 kd x0 h0 n0) := by
  refine own_go "java/lang/StringLatin1" rfl #[rv a1, iv p2, iv p3, iv p4, un, un] (fun m => ef_45 m a1 p2 p3 p4) (plainFor_of_name pn_1) ?_
  intro p e s m below meth c s₁ S0 Bd hx hby hml hown hZ X0 e0 pre0
  have N0 := Fr.nil n0
  subst hp3
  subst hp4
  have pre2 : PQ p e below m S0 s₁ 19 #[rv a1, iv p2, iv 0, iv 1, iv (p2.toInt8.toInt32), iv 0] [(.int (p2.toInt8.toInt32)), (.int x0)] := by
    intro t kt
    refine pre0 t ?_
    refine ow_iloadN X0.here hx hby d45_0 rfl ?_
    refine XS.i2b X0.here hx rfl (hb hby d45_1) rfl ?_
    show SQ p e below m s₁ 2 #[rv a1, iv p2, iv 0, iv 1, un, un] [(.int (p2.toInt8.toInt32))] _
    refine ow_istore X0.here hx hby d45_2 (l' := #[rv a1, iv p2, iv 0, iv 1, iv (p2.toInt8.toInt32), un]) rfl ?_
    refine ow_iloadN X0.here hx hby d45_4 rfl ?_
    refine ow_istore X0.here hx hby d45_5 (l' := #[rv a1, iv p2, iv 0, iv 1, iv (p2.toInt8.toInt32), iv 0]) rfl ?_
    refine ow_iload X0.here hx hby d45_7 rfl ?_
    refine ow_iloadN X0.here hx hby d45_9 rfl ?_
    refine ow_icmpNo X0.here hx hby d45_10 (tlt (by decide)).2.1 ?_
    refine ow_aloadN X0.here hx hby d45_13 rfl rfl ?_
    refine ow_iload X0.here hx hby d45_14 rfl ?_
    obtain ⟨cl1, Ar1, -, S1, M1, H1, -⟩ := (id V_a1)
    have hin1 := inb_of (j := (0 : Int32)) S1 ⟨by decide, by decide⟩
    refine X0.baloadBytes hx (j := (0 : Int32)) (v := (.int x0)) (by rw [e0]; exact Ar1.1) (State.isArrayOf_alike hZ.alike Ar1.2.1) Ar1.2.2 hin1 (H1.at hin1 rfl) (g := (mkF m 16 #[rv a1, iv p2, iv 0, iv 1, iv (p2.toInt8.toInt32), iv 0] [(.int 0), (.ref a1)])) rfl rfl (hb hby d45_16) _ ?_
    show SQ p e below m s₁ 17 #[rv a1, iv p2, iv 0, iv 1, iv (p2.toInt8.toInt32), iv 0] [(.int x0)] _
    refine ow_iload X0.here hx hby d45_17 rfl ?_
    exact kt
  by_cases hc19 : x0 = (p2.toInt8.toInt32)
  · have pre3 : PQ p e below m S0 s₁ 22 #[rv a1, iv p2, iv 0, iv 1, iv (p2.toInt8.toInt32), iv 0] [] := by
      intro t kt
      refine pre2 t ?_
      refine ow_icmpNo X0.here hx hby d45_19 (teq hc19).2 ?_
      exact kt
    have pre4 : PQ p e below m S0 s₁ 24 #[rv a1, iv p2, iv 0, iv 1, iv (p2.toInt8.toInt32), iv 0] [(.int 0)] := by
      intro t kt
      refine pre3 t ?_
      refine ow_iload X0.here hx hby d45_22 rfl ?_
      exact kt
    have hres : (0 : Int32) = (own_i1 p2.toInt8.toInt32 x0) := by simp [own_i1, hc19]
    obtain ⟨fs, hr, hu, hd, hW, hme⟩ := X0.leave (v := some (.int 0)) (fun h => by rw [Bd.returns] at h; cases h)
    refine ⟨_, _, pre4 _ ?_, hu, hd, _, _, rfl, ?_, ⟨_, rfl⟩, hW, hme.mono (by decide) (by decide)⟩
    · show SQ p e below m s₁ 24 #[rv a1, iv p2, iv 0, iv 1, iv (p2.toInt8.toInt32), iv 0] [(.int 0)] _
      exact retI X0 hx Bd.returns (hb hby d45_24) hr
    · show Qrm45_1 Z a1 p2 (0 : Int32) (1 : Int32) kd x0 h0 n0 _ s₁.heap _
      rw [e0]
      exact ⟨congrArg some (congrArg Value.int hres), N0, rfl⟩
  · have pre5 : PQ p e below m S0 s₁ 25 #[rv a1, iv p2, iv 0, iv 1, iv (p2.toInt8.toInt32), iv 0] [] := by
      intro t kt
      refine pre2 t ?_
      refine ow_icmpYes X0.here hx hby d45_19 (feq hc19).2 (pc' := 25) (by decide) (by decide) ?_
      exact kt
    have pre6 : PQ p e below m S0 s₁ 32 #[rv a1, iv p2, iv 0, iv 1, iv (p2.toInt8.toInt32), iv 1] [(.int (-1 : Int32))] := by
      intro t kt
      refine pre5 t ?_
      refine ow_iinc X0.here hx hby d45_25 rfl (l' := #[rv a1, iv p2, iv 0, iv 1, iv (p2.toInt8.toInt32), iv 1]) rfl ?_
      show SQ p e below m s₁ 28 #[rv a1, iv p2, iv 0, iv 1, iv (p2.toInt8.toInt32), iv 1] [] _
      refine ow_goto X0.here hx hby d45_28 (pc' := 7) (by decide) (by decide) ?_
      refine ow_iload X0.here hx hby d45_7 rfl ?_
      refine ow_iloadN X0.here hx hby d45_9 rfl ?_
      refine ow_icmpYes X0.here hx hby d45_10 (flt (by decide)).2.1 (pc' := 31) (by decide) (by decide) ?_
      refine ow_iconst X0.here hx hby d45_31 (v := (-1)) rfl ?_
      exact kt
    have hres : (-1 : Int32) = (own_i1 p2.toInt8.toInt32 x0) := by simp [own_i1, hc19]
    obtain ⟨fs, hr, hu, hd, hW, hme⟩ := X0.leave (v := some (.int (-1 : Int32))) (fun h => by rw [Bd.returns] at h; cases h)
    refine ⟨_, _, pre6 _ ?_, hu, hd, _, _, rfl, ?_, ⟨_, rfl⟩, hW, hme.mono (by decide) (by decide)⟩
    · show SQ p e below m s₁ 32 #[rv a1, iv p2, iv 0, iv 1, iv (p2.toInt8.toInt32), iv 1] [(.int (-1 : Int32))] _
      exact retI X0 hx Bd.returns (hb hby d45_32) hr
    · show Qrm45_1 Z a1 p2 (0 : Int32) (1 : Int32) kd x0 h0 n0 _ s₁.heap _
      rw [e0]
      exact ⟨congrArg some (congrArg Value.int hres), N0, rfl⟩
def Qrm45_2 (Z : State) (a1 : Addr) (p2 p3 p4 : Int32) (kd : ClassId) (x0 x1 : Int32) (h0 : Heap) (n0 : Nat) (v : Option Value) (h : Heap) (L : List Loc) : Prop := v = some (.int (own_i2 p2.toInt8.toInt32 x0 x1)) ∧ Fr n0 L ∧ h = h0

theorem rm45_2 (l : Launch) (Z : State) (a0 : Array Value) (hw : HW a0 Z) (ws : List Jvm.Cond) (a1 : Addr) (p2 p3 p4 : Int32) (kd : ClassId) (x0 x1 : Int32) (h0 : Heap) (n0 : Nat) (Z0 : n0 ≤ h0.size) (V_a1 : Arv Z h0 a1 kd .byte (2 : Int32) [(.int x0), (.int x1)] (.int 0)) (hp3 : p3 = (0 : Int32)) (hp4 : p4 = (2 : Int32)) :
    MF l Z h0 mn27 kb14 6 (some .int) ws ro0 #[(.ref a1), (.int p2), (.int p3), (.int p4)] (Qrm45_2 Z a1 p2 p3 p4 kd x0 x1 h0 n0) := by
  refine own_go "java/lang/StringLatin1" rfl #[rv a1, iv p2, iv p3, iv p4, un, un] (fun m => ef_45 m a1 p2 p3 p4) (plainFor_of_name pn_1) ?_
  intro p e s m below meth c s₁ S0 Bd hx hby hml hown hZ X0 e0 pre0
  have N0 := Fr.nil n0
  subst hp3
  subst hp4
  have pre2 : PQ p e below m S0 s₁ 19 #[rv a1, iv p2, iv 0, iv 2, iv (p2.toInt8.toInt32), iv 0] [(.int (p2.toInt8.toInt32)), (.int x0)] := by
    intro t kt
    refine pre0 t ?_
    refine ow_iloadN X0.here hx hby d45_0 rfl ?_
    refine XS.i2b X0.here hx rfl (hb hby d45_1) rfl ?_
    show SQ p e below m s₁ 2 #[rv a1, iv p2, iv 0, iv 2, un, un] [(.int (p2.toInt8.toInt32))] _
    refine ow_istore X0.here hx hby d45_2 (l' := #[rv a1, iv p2, iv 0, iv 2, iv (p2.toInt8.toInt32), un]) rfl ?_
    refine ow_iloadN X0.here hx hby d45_4 rfl ?_
    refine ow_istore X0.here hx hby d45_5 (l' := #[rv a1, iv p2, iv 0, iv 2, iv (p2.toInt8.toInt32), iv 0]) rfl ?_
    refine ow_iload X0.here hx hby d45_7 rfl ?_
    refine ow_iloadN X0.here hx hby d45_9 rfl ?_
    refine ow_icmpNo X0.here hx hby d45_10 (tlt (by decide)).2.1 ?_
    refine ow_aloadN X0.here hx hby d45_13 rfl rfl ?_
    refine ow_iload X0.here hx hby d45_14 rfl ?_
    obtain ⟨cl1, Ar1, -, S1, M1, H1, -⟩ := (id V_a1)
    have hin1 := inb_of (j := (0 : Int32)) S1 ⟨by decide, by decide⟩
    refine X0.baloadBytes hx (j := (0 : Int32)) (v := (.int x0)) (by rw [e0]; exact Ar1.1) (State.isArrayOf_alike hZ.alike Ar1.2.1) Ar1.2.2 hin1 (H1.at hin1 rfl) (g := (mkF m 16 #[rv a1, iv p2, iv 0, iv 2, iv (p2.toInt8.toInt32), iv 0] [(.int 0), (.ref a1)])) rfl rfl (hb hby d45_16) _ ?_
    show SQ p e below m s₁ 17 #[rv a1, iv p2, iv 0, iv 2, iv (p2.toInt8.toInt32), iv 0] [(.int x0)] _
    refine ow_iload X0.here hx hby d45_17 rfl ?_
    exact kt
  by_cases hc19 : x0 = (p2.toInt8.toInt32)
  · have pre3 : PQ p e below m S0 s₁ 22 #[rv a1, iv p2, iv 0, iv 2, iv (p2.toInt8.toInt32), iv 0] [] := by
      intro t kt
      refine pre2 t ?_
      refine ow_icmpNo X0.here hx hby d45_19 (teq hc19).2 ?_
      exact kt
    have pre4 : PQ p e below m S0 s₁ 24 #[rv a1, iv p2, iv 0, iv 2, iv (p2.toInt8.toInt32), iv 0] [(.int 0)] := by
      intro t kt
      refine pre3 t ?_
      refine ow_iload X0.here hx hby d45_22 rfl ?_
      exact kt
    have hres : (0 : Int32) = (own_i2 p2.toInt8.toInt32 x0 x1) := by simp [own_i2, hc19]
    obtain ⟨fs, hr, hu, hd, hW, hme⟩ := X0.leave (v := some (.int 0)) (fun h => by rw [Bd.returns] at h; cases h)
    refine ⟨_, _, pre4 _ ?_, hu, hd, _, _, rfl, ?_, ⟨_, rfl⟩, hW, hme.mono (by decide) (by decide)⟩
    · show SQ p e below m s₁ 24 #[rv a1, iv p2, iv 0, iv 2, iv (p2.toInt8.toInt32), iv 0] [(.int 0)] _
      exact retI X0 hx Bd.returns (hb hby d45_24) hr
    · show Qrm45_2 Z a1 p2 (0 : Int32) (2 : Int32) kd x0 x1 h0 n0 _ s₁.heap _
      rw [e0]
      exact ⟨congrArg some (congrArg Value.int hres), N0, rfl⟩
  · have pre5 : PQ p e below m S0 s₁ 25 #[rv a1, iv p2, iv 0, iv 2, iv (p2.toInt8.toInt32), iv 0] [] := by
      intro t kt
      refine pre2 t ?_
      refine ow_icmpYes X0.here hx hby d45_19 (feq hc19).2 (pc' := 25) (by decide) (by decide) ?_
      exact kt
    have pre7 : PQ p e below m S0 s₁ 19 #[rv a1, iv p2, iv 0, iv 2, iv (p2.toInt8.toInt32), iv 1] [(.int (p2.toInt8.toInt32)), (.int x1)] := by
      intro t kt
      refine pre5 t ?_
      refine ow_iinc X0.here hx hby d45_25 rfl (l' := #[rv a1, iv p2, iv 0, iv 2, iv (p2.toInt8.toInt32), iv 1]) rfl ?_
      show SQ p e below m s₁ 28 #[rv a1, iv p2, iv 0, iv 2, iv (p2.toInt8.toInt32), iv 1] [] _
      refine ow_goto X0.here hx hby d45_28 (pc' := 7) (by decide) (by decide) ?_
      refine ow_iload X0.here hx hby d45_7 rfl ?_
      refine ow_iloadN X0.here hx hby d45_9 rfl ?_
      refine ow_icmpNo X0.here hx hby d45_10 (tlt (by decide)).2.1 ?_
      refine ow_aloadN X0.here hx hby d45_13 rfl rfl ?_
      refine ow_iload X0.here hx hby d45_14 rfl ?_
      obtain ⟨cl6, Ar6, -, S6, M6, H6, -⟩ := (id V_a1)
      have hin6 := inb_of (j := (1 : Int32)) S6 ⟨by decide, by decide⟩
      refine X0.baloadBytes hx (j := (1 : Int32)) (v := (.int x1)) (by rw [e0]; exact Ar6.1) (State.isArrayOf_alike hZ.alike Ar6.2.1) Ar6.2.2 hin6 (H6.at hin6 rfl) (g := (mkF m 16 #[rv a1, iv p2, iv 0, iv 2, iv (p2.toInt8.toInt32), iv 1] [(.int 1), (.ref a1)])) rfl rfl (hb hby d45_16) _ ?_
      show SQ p e below m s₁ 17 #[rv a1, iv p2, iv 0, iv 2, iv (p2.toInt8.toInt32), iv 1] [(.int x1)] _
      refine ow_iload X0.here hx hby d45_17 rfl ?_
      exact kt
    by_cases hc19_1 : x1 = (p2.toInt8.toInt32)
    · have pre8 : PQ p e below m S0 s₁ 22 #[rv a1, iv p2, iv 0, iv 2, iv (p2.toInt8.toInt32), iv 1] [] := by
        intro t kt
        refine pre7 t ?_
        refine ow_icmpNo X0.here hx hby d45_19 (teq hc19_1).2 ?_
        exact kt
      have pre9 : PQ p e below m S0 s₁ 24 #[rv a1, iv p2, iv 0, iv 2, iv (p2.toInt8.toInt32), iv 1] [(.int 1)] := by
        intro t kt
        refine pre8 t ?_
        refine ow_iload X0.here hx hby d45_22 rfl ?_
        exact kt
      have hres : (1 : Int32) = (own_i2 p2.toInt8.toInt32 x0 x1) := by simp [own_i2, hc19, hc19_1]
      obtain ⟨fs, hr, hu, hd, hW, hme⟩ := X0.leave (v := some (.int 1)) (fun h => by rw [Bd.returns] at h; cases h)
      refine ⟨_, _, pre9 _ ?_, hu, hd, _, _, rfl, ?_, ⟨_, rfl⟩, hW, hme.mono (by decide) (by decide)⟩
      · show SQ p e below m s₁ 24 #[rv a1, iv p2, iv 0, iv 2, iv (p2.toInt8.toInt32), iv 1] [(.int 1)] _
        exact retI X0 hx Bd.returns (hb hby d45_24) hr
      · show Qrm45_2 Z a1 p2 (0 : Int32) (2 : Int32) kd x0 x1 h0 n0 _ s₁.heap _
        rw [e0]
        exact ⟨congrArg some (congrArg Value.int hres), N0, rfl⟩
    · have pre10 : PQ p e below m S0 s₁ 25 #[rv a1, iv p2, iv 0, iv 2, iv (p2.toInt8.toInt32), iv 1] [] := by
        intro t kt
        refine pre7 t ?_
        refine ow_icmpYes X0.here hx hby d45_19 (feq hc19_1).2 (pc' := 25) (by decide) (by decide) ?_
        exact kt
      have pre11 : PQ p e below m S0 s₁ 32 #[rv a1, iv p2, iv 0, iv 2, iv (p2.toInt8.toInt32), iv 2] [(.int (-1 : Int32))] := by
        intro t kt
        refine pre10 t ?_
        refine ow_iinc X0.here hx hby d45_25 rfl (l' := #[rv a1, iv p2, iv 0, iv 2, iv (p2.toInt8.toInt32), iv 2]) rfl ?_
        show SQ p e below m s₁ 28 #[rv a1, iv p2, iv 0, iv 2, iv (p2.toInt8.toInt32), iv 2] [] _
        refine ow_goto X0.here hx hby d45_28 (pc' := 7) (by decide) (by decide) ?_
        refine ow_iload X0.here hx hby d45_7 rfl ?_
        refine ow_iloadN X0.here hx hby d45_9 rfl ?_
        refine ow_icmpYes X0.here hx hby d45_10 (flt (by decide)).2.1 (pc' := 31) (by decide) (by decide) ?_
        refine ow_iconst X0.here hx hby d45_31 (v := (-1)) rfl ?_
        exact kt
      have hres : (-1 : Int32) = (own_i2 p2.toInt8.toInt32 x0 x1) := by simp [own_i2, hc19, hc19_1]
      obtain ⟨fs, hr, hu, hd, hW, hme⟩ := X0.leave (v := some (.int (-1 : Int32))) (fun h => by rw [Bd.returns] at h; cases h)
      refine ⟨_, _, pre11 _ ?_, hu, hd, _, _, rfl, ?_, ⟨_, rfl⟩, hW, hme.mono (by decide) (by decide)⟩
      · show SQ p e below m s₁ 32 #[rv a1, iv p2, iv 0, iv 2, iv (p2.toInt8.toInt32), iv 2] [(.int (-1 : Int32))] _
        exact retI X0 hx Bd.returns (hb hby d45_32) hr
      · show Qrm45_2 Z a1 p2 (0 : Int32) (2 : Int32) kd x0 x1 h0 n0 _ s₁.heap _
        rw [e0]
        exact ⟨congrArg some (congrArg Value.int hres), N0, rfl⟩
def Qrm43_0 (Z : State) (a1 : Addr) (p2 p3 p4 : Int32) (kd : ClassId) (h0 : Heap) (n0 : Nat) (v : Option Value) (h : Heap) (L : List Loc) : Prop := v = some (.int (own_j0 p2 )) ∧ Fr n0 L ∧ h = h0
theorem d43_0 : decode kb5 0 = .ok (.iload_n 1, 1) := by decide +kernel
theorem d43_1 : decode kb5 1 = .ok (.invokestatic 88, 3) := by decide +kernel
theorem d43_4 : decode kb5 4 = .ok (.ifCond .ne 5, 3) := by decide +kernel
theorem d43_7 : decode kb5 7 = .ok (.iconst (-1), 1) := by decide +kernel
theorem d43_8 : decode kb5 8 = .ok (.ireturn, 1) := by decide +kernel
theorem d43_9 : decode kb5 9 = .ok (.iload_n 2, 1) := by decide +kernel
theorem d43_10 : decode kb5 10 = .ok (.iconst 0, 1) := by decide +kernel
theorem d43_11 : decode kb5 11 = .ok (.invokestatic 92, 3) := by decide +kernel
theorem d43_14 : decode kb5 14 = .ok (.istore_n 2, 1) := by decide +kernel
theorem d43_15 : decode kb5 15 = .ok (.iload_n 3, 1) := by decide +kernel
theorem d43_16 : decode kb5 16 = .ok (.aload_n 0, 1) := by decide +kernel
theorem d43_17 : decode kb5 17 = .ok (.arraylength, 1) := by decide +kernel
theorem d43_18 : decode kb5 18 = .ok (.invokestatic 38, 3) := by decide +kernel
theorem d43_21 : decode kb5 21 = .ok (.istore_n 3, 1) := by decide +kernel
theorem d43_22 : decode kb5 22 = .ok (.iload_n 2, 1) := by decide +kernel
theorem d43_23 : decode kb5 23 = .ok (.iload_n 3, 1) := by decide +kernel
theorem d43_24 : decode kb5 24 = .ok (.if_icmp .lt 5, 3) := by decide +kernel
theorem d43_27 : decode kb5 27 = .ok (.iconst (-1), 1) := by decide +kernel
theorem d43_28 : decode kb5 28 = .ok (.ireturn, 1) := by decide +kernel
theorem ef_43 (m : MethodId) (x0 : Addr) (x1 x2 x3 : Int32) : entryFrame m #[(.ref x0), (.int x1), (.int x2), (.int x3)] 4 = mkF m 0 #[rv x0, iv x1, iv x2, iv x3] [] := by first | (simp [entryFrame, mkF, argsToLocals, Value.category]; done) | rfl
theorem rm43_0 (l : Launch) (Z : State) (a0 : Array Value) (hw : HW a0 Z) (ws : List Jvm.Cond) (a1 : Addr) (p2 p3 p4 : Int32) (kd : ClassId) (h0 : Heap) (n0 : Nat) (Z0 : n0 ≤ h0.size) (V_a1 : Arv Z h0 a1 kd .byte (0 : Int32) [] (.int 0)) (hp3 : p3 = (0 : Int32)) (hp4 : p4 = (0 : Int32)) :
    MF l Z h0 mn18 kb5 4 (some .int) ws ro1 #[(.ref a1), (.int p2), (.int p3), (.int p4)] (Qrm43_0 Z a1 p2 p3 p4 kd h0 n0) := by
  refine own_go "java/lang/StringLatin1" rfl #[rv a1, iv p2, iv p3, iv p4] (fun m => ef_43 m a1 p2 p3 p4) (plainFor_of_name pn_1) ?_
  intro p e s m below meth c s₁ S0 Bd hx hby hml hown hZ X0 e0 pre0
  have N0 := Fr.nil n0
  subst hp3
  subst hp4
  have pre1 : PQ p e below m S0 s₁ 1 #[rv a1, iv p2, iv 0, iv 0] [(.int p2)] := by
    intro t kt
    refine pre0 t ?_
    refine ow_iloadN X0.here hx hby d43_0 rfl ?_
    exact kt
  obtain ⟨_, _, ⟨T2, L2, k2, n2⟩, -, X2, ⟨Lc2, hQ2, l2, y2, z2⟩, st2⟩ := Jvm.LawKit.callS X0 hx (y := mn21) hown (mw hZ hw 188 rfl) (mw hZ hw 189 rfl) (mw hZ hw 60 rfl) (mw hZ hw 190 rfl) (by decide) (backOf (W := 0) (rm44 l Z a0 hw [] p2 h0 n0) hZ (wi hw 190 rfl) (wi hw 60 rfl) (by decide) (by decide)) (g := (mkF m 1 #[rv a1, iv p2, iv 0, iv 0] [(.int p2)])) rfl (by rw [hml]; rfl) (argsL := [(.int p2)]) (rest := []) (lenOf pd_7 rfl) rfl (by show 2 * 0 + _ ≤ _; exact Nat.le_of_eq rfl) (hb hby d43_1) (fun _ _ => ⟨rfl, e0, (Nat.zero_le _), (Nat.zero_le _)⟩)
  dsimp only [Pt.U, Pt.locs, Pt.cells, Pt.slots] at X2 l2 y2 z2 st2 hQ2
  subst l2 y2 z2
  obtain ⟨rfl, N2q, e2⟩ := hQ2
  have N2 := Fr.app N0 N2q
  have pre2 : PQ p e below m S0 T2 4 #[rv a1, iv p2, iv 0, iv 0] [(.int (own_f44 p2))] := fun t kt => pre1 t (st2 _ kt)
  by_cases hc4 : (own_f44 p2) = (0 : Int32)
  · have pre3 : PQ p e below m S0 T2 7 #[rv a1, iv p2, iv 0, iv 0] [] := by
      intro t kt
      refine pre2 t ?_
      refine ow_ifNo X2.here hx hby d43_4 ((if0 _ _).trans (teq hc4).2) ?_
      exact kt
    have pre4 : PQ p e below m S0 T2 8 #[rv a1, iv p2, iv 0, iv 0] [(.int (-1 : Int32))] := by
      intro t kt
      refine pre3 t ?_
      refine ow_iconst X2.here hx hby d43_7 (v := (-1)) rfl ?_
      exact kt
    have hres : (-1 : Int32) = (own_j0 p2 ) := by simp [own_j0, hc4]
    obtain ⟨fs, hr, hu, hd, hW, hme⟩ := X2.leave (v := some (.int (-1 : Int32))) (fun h => by rw [Bd.returns] at h; cases h)
    refine ⟨_, _, pre4 _ ?_, hu, hd, _, _, rfl, ?_, ⟨_, rfl⟩, hW, hme.mono (by decide) (by decide)⟩
    · show SQ p e below m T2 8 #[rv a1, iv p2, iv 0, iv 0] [(.int (-1 : Int32))] _
      exact retI X2 hx Bd.returns (hb hby d43_8) hr
    · show Qrm43_0 Z a1 p2 (0 : Int32) (0 : Int32) kd h0 n0 _ T2.heap _
      rw [e2]
      exact ⟨congrArg some (congrArg Value.int hres), N2, rfl⟩
  · have pre5 : PQ p e below m S0 T2 9 #[rv a1, iv p2, iv 0, iv 0] [] := by
      intro t kt
      refine pre2 t ?_
      refine ow_ifYes X2.here hx hby d43_4 ((if0 _ _).trans (feq hc4).2) (pc' := 9) (by decide) (by decide) ?_
      exact kt
    have pre6 : PQ p e below m S0 T2 11 #[rv a1, iv p2, iv 0, iv 0] [(.int 0), (.int 0)] := by
      intro t kt
      refine pre5 t ?_
      refine ow_iloadN X2.here hx hby d43_9 rfl ?_
      refine ow_iconst X2.here hx hby d43_10 (v := 0) rfl ?_
      exact kt
    obtain ⟨_, _, ⟨T7, L7, k7, n7⟩, -, X7, ⟨Lc7, hQ7, l7, y7, z7⟩, st7⟩ := Jvm.LawKit.callS X2 hx (y := mn8) hown (mw hZ hw 191 rfl) (mw hZ hw 96 rfl) (mw hZ hw 97 rfl) (mw hZ hw 98 rfl) (by decide) (backOf (W := 0) (rm19 l Z a0 hw [] (0 : Int32) (0 : Int32) h0 n0) hZ (wi hw 98 rfl) (wi hw 97 rfl) (by decide) (by decide)) (g := (mkF m 11 #[rv a1, iv p2, iv 0, iv 0] [(.int 0), (.int 0)])) rfl (by rw [hml]; rfl) (argsL := [(.int 0), (.int 0)]) (rest := []) (lenOf pd_8 rfl) rfl (by show 2 * 0 + _ ≤ _; exact Nat.le_of_eq rfl) (hb hby d43_11) (fun _ _ => ⟨rfl, e2, (Nat.zero_le _), (Nat.zero_le _)⟩)
    dsimp only [Pt.U, Pt.locs, Pt.cells, Pt.slots] at X7 l7 y7 z7 st7 hQ7
    subst l7 y7 z7
    obtain ⟨rfl, N7q, e7⟩ := hQ7
    have N7 := Fr.app N2 N7q
    have pre7 : PQ p e below m S0 T7 14 #[rv a1, iv p2, iv 0, iv 0] [(.int (own_f19 (0 : Int32) (0 : Int32)))] := fun t kt => pre6 t (st7 _ kt)
    rw [show own_f19 (0 : Int32) (0 : Int32) = (0 : Int32) from by decide] at pre7
    have pre9 : PQ p e below m S0 T7 18 #[rv a1, iv p2, iv 0, iv 0] [(.int 0), (.int 0)] := by
      intro t kt
      refine pre7 t ?_
      refine ow_istoreN X7.here hx hby d43_14 (l' := #[rv a1, iv p2, iv 0, iv 0]) rfl ?_
      refine ow_iloadN X7.here hx hby d43_15 rfl ?_
      refine ow_aloadN X7.here hx hby d43_16 rfl rfl ?_
      obtain ⟨cl8, Ar8, -, S8, M8, -, -⟩ := (id V_a1)
      refine X7.arraylength hx (by rw [e7]; exact Ar8.1) (State.isArrayOf_alike hZ.alike Ar8.2.1) (g := (mkF m 17 #[rv a1, iv p2, iv 0, iv 0] [(.ref a1), (.int 0)])) rfl rfl (hb hby d43_17) _ ?_
      rw [len_of S8 M8]
      exact kt
    obtain ⟨_, _, ⟨T10, L10, k10, n10⟩, -, X10, ⟨Lc10, hQ10, l10, y10, z10⟩, st10⟩ := Jvm.LawKit.callS X7 hx (y := mn11) hown (mw hZ hw 192 rfl) (mw hZ hw 167 rfl) (mw hZ hw 97 rfl) (mw hZ hw 168 rfl) (by decide) (backOf (W := 0) (rm37 l Z a0 hw [] (0 : Int32) (0 : Int32) h0 n0) hZ (wi hw 168 rfl) (wi hw 97 rfl) (by decide) (by decide)) (g := (mkF m 18 #[rv a1, iv p2, iv 0, iv 0] [(.int 0), (.int 0)])) rfl (by rw [hml]; rfl) (argsL := [(.int 0), (.int 0)]) (rest := []) (lenOf pd_8 rfl) rfl (by show 2 * 0 + _ ≤ _; exact Nat.le_of_eq rfl) (hb hby d43_18) (fun _ _ => ⟨rfl, e7, (Nat.zero_le _), (Nat.zero_le _)⟩)
    dsimp only [Pt.U, Pt.locs, Pt.cells, Pt.slots] at X10 l10 y10 z10 st10 hQ10
    subst l10 y10 z10
    obtain ⟨rfl, N10q, e10⟩ := hQ10
    have N10 := Fr.app N7 N10q
    have pre10 : PQ p e below m S0 T10 21 #[rv a1, iv p2, iv 0, iv 0] [(.int (own_f37 (0 : Int32) (0 : Int32)))] := fun t kt => pre9 t (st10 _ kt)
    rw [show own_f37 (0 : Int32) (0 : Int32) = (0 : Int32) from by decide] at pre10
    have pre11 : PQ p e below m S0 T10 28 #[rv a1, iv p2, iv 0, iv 0] [(.int (-1 : Int32))] := by
      intro t kt
      refine pre10 t ?_
      refine ow_istoreN X10.here hx hby d43_21 (l' := #[rv a1, iv p2, iv 0, iv 0]) rfl ?_
      refine ow_iloadN X10.here hx hby d43_22 rfl ?_
      refine ow_iloadN X10.here hx hby d43_23 rfl ?_
      refine ow_icmpNo X10.here hx hby d43_24 (flt (by decide)).1 ?_
      refine ow_iconst X10.here hx hby d43_27 (v := (-1)) rfl ?_
      exact kt
    have hres : (-1 : Int32) = (own_j0 p2 ) := by simp [own_j0, hc4]
    obtain ⟨fs, hr, hu, hd, hW, hme⟩ := X10.leave (v := some (.int (-1 : Int32))) (fun h => by rw [Bd.returns] at h; cases h)
    refine ⟨_, _, pre11 _ ?_, hu, hd, _, _, rfl, ?_, ⟨_, rfl⟩, hW, hme.mono (by decide) (by decide)⟩
    · show SQ p e below m T10 28 #[rv a1, iv p2, iv 0, iv 0] [(.int (-1 : Int32))] _
      exact retI X10 hx Bd.returns (hb hby d43_28) hr
    · show Qrm43_0 Z a1 p2 (0 : Int32) (0 : Int32) kd h0 n0 _ T10.heap _
      rw [e10]
      exact ⟨congrArg some (congrArg Value.int hres), N10, rfl⟩
def Qrm43_1 (Z : State) (a1 : Addr) (p2 p3 p4 : Int32) (kd : ClassId) (x0 : Int32) (h0 : Heap) (n0 : Nat) (v : Option Value) (h : Heap) (L : List Loc) : Prop := v = some (.int (own_j1 p2 x0)) ∧ Fr n0 L ∧ h = h0
theorem d43_29 : decode kb5 29 = .ok (.aload_n 0, 1) := by decide +kernel
theorem d43_30 : decode kb5 30 = .ok (.iload_n 1, 1) := by decide +kernel
theorem d43_31 : decode kb5 31 = .ok (.iload_n 2, 1) := by decide +kernel
theorem d43_32 : decode kb5 32 = .ok (.iload_n 3, 1) := by decide +kernel
theorem d43_33 : decode kb5 33 = .ok (.invokestatic 95, 3) := by decide +kernel
theorem d43_36 : decode kb5 36 = .ok (.ireturn, 1) := by decide +kernel

theorem rm43_1 (l : Launch) (Z : State) (a0 : Array Value) (hw : HW a0 Z) (ws : List Jvm.Cond) (a1 : Addr) (p2 p3 p4 : Int32) (kd : ClassId) (x0 : Int32) (h0 : Heap) (n0 : Nat) (Z0 : n0 ≤ h0.size) (V_a1 : Arv Z h0 a1 kd .byte (1 : Int32) [(.int x0)] (.int 0)) (hp3 : p3 = (0 : Int32)) (hp4 : p4 = (1 : Int32)) :
    MF l Z h0 mn18 kb5 4 (some .int) ws ({ frames := 1, cells := 0, slots := 0, locals := 17 } : Room) #[(.ref a1), (.int p2), (.int p3), (.int p4)] (Qrm43_1 Z a1 p2 p3 p4 kd x0 h0 n0) := by
  refine own_go "java/lang/StringLatin1" rfl #[rv a1, iv p2, iv p3, iv p4] (fun m => ef_43 m a1 p2 p3 p4) (plainFor_of_name pn_1) ?_
  intro p e s m below meth c s₁ S0 Bd hx hby hml hown hZ X0 e0 pre0
  have N0 := Fr.nil n0
  subst hp3
  subst hp4
  have pre1 : PQ p e below m S0 s₁ 1 #[rv a1, iv p2, iv 0, iv 1] [(.int p2)] := by
    intro t kt
    refine pre0 t ?_
    refine ow_iloadN X0.here hx hby d43_0 rfl ?_
    exact kt
  obtain ⟨_, _, ⟨T2, L2, k2, n2⟩, -, X2, ⟨Lc2, hQ2, l2, y2, z2⟩, st2⟩ := Jvm.LawKit.callS X0 hx (y := mn21) hown (mw hZ hw 188 rfl) (mw hZ hw 189 rfl) (mw hZ hw 60 rfl) (mw hZ hw 190 rfl) (by decide) (backOf (W := 0) (rm44 l Z a0 hw [] p2 h0 n0) hZ (wi hw 190 rfl) (wi hw 60 rfl) (by decide) (by decide)) (g := (mkF m 1 #[rv a1, iv p2, iv 0, iv 1] [(.int p2)])) rfl (by rw [hml]; rfl) (argsL := [(.int p2)]) (rest := []) (lenOf pd_7 rfl) rfl (by show 2 * 0 + _ ≤ _; exact Nat.le_of_eq rfl) (hb hby d43_1) (fun _ _ => ⟨rfl, e0, (Nat.zero_le _), (Nat.zero_le _)⟩)
  dsimp only [Pt.U, Pt.locs, Pt.cells, Pt.slots] at X2 l2 y2 z2 st2 hQ2
  subst l2 y2 z2
  obtain ⟨rfl, N2q, e2⟩ := hQ2
  have N2 := Fr.app N0 N2q
  have pre2 : PQ p e below m S0 T2 4 #[rv a1, iv p2, iv 0, iv 1] [(.int (own_f44 p2))] := fun t kt => pre1 t (st2 _ kt)
  by_cases hc4 : (own_f44 p2) = (0 : Int32)
  · have pre3 : PQ p e below m S0 T2 7 #[rv a1, iv p2, iv 0, iv 1] [] := by
      intro t kt
      refine pre2 t ?_
      refine ow_ifNo X2.here hx hby d43_4 ((if0 _ _).trans (teq hc4).2) ?_
      exact kt
    have pre4 : PQ p e below m S0 T2 8 #[rv a1, iv p2, iv 0, iv 1] [(.int (-1 : Int32))] := by
      intro t kt
      refine pre3 t ?_
      refine ow_iconst X2.here hx hby d43_7 (v := (-1)) rfl ?_
      exact kt
    have hres : (-1 : Int32) = (own_j1 p2 x0) := by simp [own_j1, hc4]
    obtain ⟨fs, hr, hu, hd, hW, hme⟩ := X2.leave (v := some (.int (-1 : Int32))) (fun h => by rw [Bd.returns] at h; cases h)
    refine ⟨_, _, pre4 _ ?_, hu, hd, _, _, rfl, ?_, ⟨_, rfl⟩, hW, hme.mono (by decide) (by decide)⟩
    · show SQ p e below m T2 8 #[rv a1, iv p2, iv 0, iv 1] [(.int (-1 : Int32))] _
      exact retI X2 hx Bd.returns (hb hby d43_8) hr
    · show Qrm43_1 Z a1 p2 (0 : Int32) (1 : Int32) kd x0 h0 n0 _ T2.heap _
      rw [e2]
      exact ⟨congrArg some (congrArg Value.int hres), N2, rfl⟩
  · have pre5 : PQ p e below m S0 T2 9 #[rv a1, iv p2, iv 0, iv 1] [] := by
      intro t kt
      refine pre2 t ?_
      refine ow_ifYes X2.here hx hby d43_4 ((if0 _ _).trans (feq hc4).2) (pc' := 9) (by decide) (by decide) ?_
      exact kt
    have pre6 : PQ p e below m S0 T2 11 #[rv a1, iv p2, iv 0, iv 1] [(.int 0), (.int 0)] := by
      intro t kt
      refine pre5 t ?_
      refine ow_iloadN X2.here hx hby d43_9 rfl ?_
      refine ow_iconst X2.here hx hby d43_10 (v := 0) rfl ?_
      exact kt
    obtain ⟨_, _, ⟨T7, L7, k7, n7⟩, -, X7, ⟨Lc7, hQ7, l7, y7, z7⟩, st7⟩ := Jvm.LawKit.callS X2 hx (y := mn8) hown (mw hZ hw 191 rfl) (mw hZ hw 96 rfl) (mw hZ hw 97 rfl) (mw hZ hw 98 rfl) (by decide) (backOf (W := 0) (rm19 l Z a0 hw [] (0 : Int32) (0 : Int32) h0 n0) hZ (wi hw 98 rfl) (wi hw 97 rfl) (by decide) (by decide)) (g := (mkF m 11 #[rv a1, iv p2, iv 0, iv 1] [(.int 0), (.int 0)])) rfl (by rw [hml]; rfl) (argsL := [(.int 0), (.int 0)]) (rest := []) (lenOf pd_8 rfl) rfl (by show 2 * 0 + _ ≤ _; exact Nat.le_of_eq rfl) (hb hby d43_11) (fun _ _ => ⟨rfl, e2, (Nat.zero_le _), (Nat.zero_le _)⟩)
    dsimp only [Pt.U, Pt.locs, Pt.cells, Pt.slots] at X7 l7 y7 z7 st7 hQ7
    subst l7 y7 z7
    obtain ⟨rfl, N7q, e7⟩ := hQ7
    have N7 := Fr.app N2 N7q
    have pre7 : PQ p e below m S0 T7 14 #[rv a1, iv p2, iv 0, iv 1] [(.int (own_f19 (0 : Int32) (0 : Int32)))] := fun t kt => pre6 t (st7 _ kt)
    rw [show own_f19 (0 : Int32) (0 : Int32) = (0 : Int32) from by decide] at pre7
    have pre9 : PQ p e below m S0 T7 18 #[rv a1, iv p2, iv 0, iv 1] [(.int 1), (.int 1)] := by
      intro t kt
      refine pre7 t ?_
      refine ow_istoreN X7.here hx hby d43_14 (l' := #[rv a1, iv p2, iv 0, iv 1]) rfl ?_
      refine ow_iloadN X7.here hx hby d43_15 rfl ?_
      refine ow_aloadN X7.here hx hby d43_16 rfl rfl ?_
      obtain ⟨cl8, Ar8, -, S8, M8, -, -⟩ := (id V_a1)
      refine X7.arraylength hx (by rw [e7]; exact Ar8.1) (State.isArrayOf_alike hZ.alike Ar8.2.1) (g := (mkF m 17 #[rv a1, iv p2, iv 0, iv 1] [(.ref a1), (.int 1)])) rfl rfl (hb hby d43_17) _ ?_
      rw [len_of S8 M8]
      exact kt
    obtain ⟨_, _, ⟨T10, L10, k10, n10⟩, -, X10, ⟨Lc10, hQ10, l10, y10, z10⟩, st10⟩ := Jvm.LawKit.callS X7 hx (y := mn11) hown (mw hZ hw 192 rfl) (mw hZ hw 167 rfl) (mw hZ hw 97 rfl) (mw hZ hw 168 rfl) (by decide) (backOf (W := 0) (rm37 l Z a0 hw [] (1 : Int32) (1 : Int32) h0 n0) hZ (wi hw 168 rfl) (wi hw 97 rfl) (by decide) (by decide)) (g := (mkF m 18 #[rv a1, iv p2, iv 0, iv 1] [(.int 1), (.int 1)])) rfl (by rw [hml]; rfl) (argsL := [(.int 1), (.int 1)]) (rest := []) (lenOf pd_8 rfl) rfl (by show 2 * 0 + _ ≤ _; exact Nat.le_of_eq rfl) (hb hby d43_18) (fun _ _ => ⟨rfl, e7, (Nat.zero_le _), (Nat.zero_le _)⟩)
    dsimp only [Pt.U, Pt.locs, Pt.cells, Pt.slots] at X10 l10 y10 z10 st10 hQ10
    subst l10 y10 z10
    obtain ⟨rfl, N10q, e10⟩ := hQ10
    have N10 := Fr.app N7 N10q
    have pre10 : PQ p e below m S0 T10 21 #[rv a1, iv p2, iv 0, iv 1] [(.int (own_f37 (1 : Int32) (1 : Int32)))] := fun t kt => pre9 t (st10 _ kt)
    rw [show own_f37 (1 : Int32) (1 : Int32) = (1 : Int32) from by decide] at pre10
    have pre11 : PQ p e below m S0 T10 33 #[rv a1, iv p2, iv 0, iv 1] [(.int 1), (.int 0), (.int p2), (.ref a1)] := by
      intro t kt
      refine pre10 t ?_
      refine ow_istoreN X10.here hx hby d43_21 (l' := #[rv a1, iv p2, iv 0, iv 1]) rfl ?_
      refine ow_iloadN X10.here hx hby d43_22 rfl ?_
      refine ow_iloadN X10.here hx hby d43_23 rfl ?_
      refine ow_icmpYes X10.here hx hby d43_24 (tlt (by decide)).1 (pc' := 29) (by decide) (by decide) ?_
      refine ow_aloadN X10.here hx hby d43_29 rfl rfl ?_
      refine ow_iloadN X10.here hx hby d43_30 rfl ?_
      refine ow_iloadN X10.here hx hby d43_31 rfl ?_
      refine ow_iloadN X10.here hx hby d43_32 rfl ?_
      exact kt
    obtain ⟨_, _, ⟨T12, L12, k12, n12⟩, -, X12, ⟨Lc12, hQ12, l12, y12, z12⟩, st12⟩ := Jvm.LawKit.callS X10 hx (y := mn27) hown (mw hZ hw 193 rfl) (mw hZ hw 194 rfl) (mw hZ hw 60 rfl) (mw hZ hw 195 rfl) (by decide) (backOf (W := 0) (rm45_1 l Z a0 hw [] a1 p2 (0 : Int32) (1 : Int32) kd x0 h0 n0 Z0 V_a1 (rfl) (rfl)) hZ (wi hw 195 rfl) (wi hw 60 rfl) (by decide) (by decide)) (g := (mkF m 33 #[rv a1, iv p2, iv 0, iv 1] [(.int 1), (.int 0), (.int p2), (.ref a1)])) rfl (by rw [hml]; rfl) (argsL := [(.ref a1), (.int p2), (.int 0), (.int 1)]) (rest := []) (lenOf pd_9 rfl) rfl (by show 2 * 0 + _ ≤ _; exact Nat.le_of_eq rfl) (hb hby d43_33) (fun _ _ => ⟨rfl, e10, (Nat.zero_le _), (Nat.zero_le _)⟩)
    dsimp only [Pt.U, Pt.locs, Pt.cells, Pt.slots] at X12 l12 y12 z12 st12 hQ12
    subst l12 y12 z12
    obtain ⟨rfl, N12q, e12⟩ := hQ12
    have N12 := Fr.app N10 N12q
    have pre12 : PQ p e below m S0 T12 36 #[rv a1, iv p2, iv 0, iv 1] [(.int (own_i1 p2.toInt8.toInt32 x0))] := fun t kt => pre11 t (st12 _ kt)
    have hres : (own_i1 p2.toInt8.toInt32 x0) = (own_j1 p2 x0) := by simp [own_j1, hc4]
    obtain ⟨fs, hr, hu, hd, hW, hme⟩ := X12.leave (v := some (.int (own_i1 p2.toInt8.toInt32 x0))) (fun h => by rw [Bd.returns] at h; cases h)
    refine ⟨_, _, pre12 _ ?_, hu, hd, _, _, rfl, ?_, ⟨_, rfl⟩, hW, hme.mono (by decide) (by decide)⟩
    · show SQ p e below m T12 36 #[rv a1, iv p2, iv 0, iv 1] [(.int (own_i1 p2.toInt8.toInt32 x0))] _
      exact retI X12 hx Bd.returns (hb hby d43_36) hr
    · show Qrm43_1 Z a1 p2 (0 : Int32) (1 : Int32) kd x0 h0 n0 _ T12.heap _
      rw [e12]
      exact ⟨congrArg some (congrArg Value.int hres), N12, rfl⟩
def Qrm43_2 (Z : State) (a1 : Addr) (p2 p3 p4 : Int32) (kd : ClassId) (x0 x1 : Int32) (h0 : Heap) (n0 : Nat) (v : Option Value) (h : Heap) (L : List Loc) : Prop := v = some (.int (own_j2 p2 x0 x1)) ∧ Fr n0 L ∧ h = h0

theorem rm43_2 (l : Launch) (Z : State) (a0 : Array Value) (hw : HW a0 Z) (ws : List Jvm.Cond) (a1 : Addr) (p2 p3 p4 : Int32) (kd : ClassId) (x0 x1 : Int32) (h0 : Heap) (n0 : Nat) (Z0 : n0 ≤ h0.size) (V_a1 : Arv Z h0 a1 kd .byte (2 : Int32) [(.int x0), (.int x1)] (.int 0)) (hp3 : p3 = (0 : Int32)) (hp4 : p4 = (2 : Int32)) :
    MF l Z h0 mn18 kb5 4 (some .int) ws ({ frames := 1, cells := 0, slots := 0, locals := 17 } : Room) #[(.ref a1), (.int p2), (.int p3), (.int p4)] (Qrm43_2 Z a1 p2 p3 p4 kd x0 x1 h0 n0) := by
  refine own_go "java/lang/StringLatin1" rfl #[rv a1, iv p2, iv p3, iv p4] (fun m => ef_43 m a1 p2 p3 p4) (plainFor_of_name pn_1) ?_
  intro p e s m below meth c s₁ S0 Bd hx hby hml hown hZ X0 e0 pre0
  have N0 := Fr.nil n0
  subst hp3
  subst hp4
  have pre1 : PQ p e below m S0 s₁ 1 #[rv a1, iv p2, iv 0, iv 2] [(.int p2)] := by
    intro t kt
    refine pre0 t ?_
    refine ow_iloadN X0.here hx hby d43_0 rfl ?_
    exact kt
  obtain ⟨_, _, ⟨T2, L2, k2, n2⟩, -, X2, ⟨Lc2, hQ2, l2, y2, z2⟩, st2⟩ := Jvm.LawKit.callS X0 hx (y := mn21) hown (mw hZ hw 188 rfl) (mw hZ hw 189 rfl) (mw hZ hw 60 rfl) (mw hZ hw 190 rfl) (by decide) (backOf (W := 0) (rm44 l Z a0 hw [] p2 h0 n0) hZ (wi hw 190 rfl) (wi hw 60 rfl) (by decide) (by decide)) (g := (mkF m 1 #[rv a1, iv p2, iv 0, iv 2] [(.int p2)])) rfl (by rw [hml]; rfl) (argsL := [(.int p2)]) (rest := []) (lenOf pd_7 rfl) rfl (by show 2 * 0 + _ ≤ _; exact Nat.le_of_eq rfl) (hb hby d43_1) (fun _ _ => ⟨rfl, e0, (Nat.zero_le _), (Nat.zero_le _)⟩)
  dsimp only [Pt.U, Pt.locs, Pt.cells, Pt.slots] at X2 l2 y2 z2 st2 hQ2
  subst l2 y2 z2
  obtain ⟨rfl, N2q, e2⟩ := hQ2
  have N2 := Fr.app N0 N2q
  have pre2 : PQ p e below m S0 T2 4 #[rv a1, iv p2, iv 0, iv 2] [(.int (own_f44 p2))] := fun t kt => pre1 t (st2 _ kt)
  by_cases hc4 : (own_f44 p2) = (0 : Int32)
  · have pre3 : PQ p e below m S0 T2 7 #[rv a1, iv p2, iv 0, iv 2] [] := by
      intro t kt
      refine pre2 t ?_
      refine ow_ifNo X2.here hx hby d43_4 ((if0 _ _).trans (teq hc4).2) ?_
      exact kt
    have pre4 : PQ p e below m S0 T2 8 #[rv a1, iv p2, iv 0, iv 2] [(.int (-1 : Int32))] := by
      intro t kt
      refine pre3 t ?_
      refine ow_iconst X2.here hx hby d43_7 (v := (-1)) rfl ?_
      exact kt
    have hres : (-1 : Int32) = (own_j2 p2 x0 x1) := by simp [own_j2, hc4]
    obtain ⟨fs, hr, hu, hd, hW, hme⟩ := X2.leave (v := some (.int (-1 : Int32))) (fun h => by rw [Bd.returns] at h; cases h)
    refine ⟨_, _, pre4 _ ?_, hu, hd, _, _, rfl, ?_, ⟨_, rfl⟩, hW, hme.mono (by decide) (by decide)⟩
    · show SQ p e below m T2 8 #[rv a1, iv p2, iv 0, iv 2] [(.int (-1 : Int32))] _
      exact retI X2 hx Bd.returns (hb hby d43_8) hr
    · show Qrm43_2 Z a1 p2 (0 : Int32) (2 : Int32) kd x0 x1 h0 n0 _ T2.heap _
      rw [e2]
      exact ⟨congrArg some (congrArg Value.int hres), N2, rfl⟩
  · have pre5 : PQ p e below m S0 T2 9 #[rv a1, iv p2, iv 0, iv 2] [] := by
      intro t kt
      refine pre2 t ?_
      refine ow_ifYes X2.here hx hby d43_4 ((if0 _ _).trans (feq hc4).2) (pc' := 9) (by decide) (by decide) ?_
      exact kt
    have pre6 : PQ p e below m S0 T2 11 #[rv a1, iv p2, iv 0, iv 2] [(.int 0), (.int 0)] := by
      intro t kt
      refine pre5 t ?_
      refine ow_iloadN X2.here hx hby d43_9 rfl ?_
      refine ow_iconst X2.here hx hby d43_10 (v := 0) rfl ?_
      exact kt
    obtain ⟨_, _, ⟨T7, L7, k7, n7⟩, -, X7, ⟨Lc7, hQ7, l7, y7, z7⟩, st7⟩ := Jvm.LawKit.callS X2 hx (y := mn8) hown (mw hZ hw 191 rfl) (mw hZ hw 96 rfl) (mw hZ hw 97 rfl) (mw hZ hw 98 rfl) (by decide) (backOf (W := 0) (rm19 l Z a0 hw [] (0 : Int32) (0 : Int32) h0 n0) hZ (wi hw 98 rfl) (wi hw 97 rfl) (by decide) (by decide)) (g := (mkF m 11 #[rv a1, iv p2, iv 0, iv 2] [(.int 0), (.int 0)])) rfl (by rw [hml]; rfl) (argsL := [(.int 0), (.int 0)]) (rest := []) (lenOf pd_8 rfl) rfl (by show 2 * 0 + _ ≤ _; exact Nat.le_of_eq rfl) (hb hby d43_11) (fun _ _ => ⟨rfl, e2, (Nat.zero_le _), (Nat.zero_le _)⟩)
    dsimp only [Pt.U, Pt.locs, Pt.cells, Pt.slots] at X7 l7 y7 z7 st7 hQ7
    subst l7 y7 z7
    obtain ⟨rfl, N7q, e7⟩ := hQ7
    have N7 := Fr.app N2 N7q
    have pre7 : PQ p e below m S0 T7 14 #[rv a1, iv p2, iv 0, iv 2] [(.int (own_f19 (0 : Int32) (0 : Int32)))] := fun t kt => pre6 t (st7 _ kt)
    rw [show own_f19 (0 : Int32) (0 : Int32) = (0 : Int32) from by decide] at pre7
    have pre9 : PQ p e below m S0 T7 18 #[rv a1, iv p2, iv 0, iv 2] [(.int 2), (.int 2)] := by
      intro t kt
      refine pre7 t ?_
      refine ow_istoreN X7.here hx hby d43_14 (l' := #[rv a1, iv p2, iv 0, iv 2]) rfl ?_
      refine ow_iloadN X7.here hx hby d43_15 rfl ?_
      refine ow_aloadN X7.here hx hby d43_16 rfl rfl ?_
      obtain ⟨cl8, Ar8, -, S8, M8, -, -⟩ := (id V_a1)
      refine X7.arraylength hx (by rw [e7]; exact Ar8.1) (State.isArrayOf_alike hZ.alike Ar8.2.1) (g := (mkF m 17 #[rv a1, iv p2, iv 0, iv 2] [(.ref a1), (.int 2)])) rfl rfl (hb hby d43_17) _ ?_
      rw [len_of S8 M8]
      exact kt
    obtain ⟨_, _, ⟨T10, L10, k10, n10⟩, -, X10, ⟨Lc10, hQ10, l10, y10, z10⟩, st10⟩ := Jvm.LawKit.callS X7 hx (y := mn11) hown (mw hZ hw 192 rfl) (mw hZ hw 167 rfl) (mw hZ hw 97 rfl) (mw hZ hw 168 rfl) (by decide) (backOf (W := 0) (rm37 l Z a0 hw [] (2 : Int32) (2 : Int32) h0 n0) hZ (wi hw 168 rfl) (wi hw 97 rfl) (by decide) (by decide)) (g := (mkF m 18 #[rv a1, iv p2, iv 0, iv 2] [(.int 2), (.int 2)])) rfl (by rw [hml]; rfl) (argsL := [(.int 2), (.int 2)]) (rest := []) (lenOf pd_8 rfl) rfl (by show 2 * 0 + _ ≤ _; exact Nat.le_of_eq rfl) (hb hby d43_18) (fun _ _ => ⟨rfl, e7, (Nat.zero_le _), (Nat.zero_le _)⟩)
    dsimp only [Pt.U, Pt.locs, Pt.cells, Pt.slots] at X10 l10 y10 z10 st10 hQ10
    subst l10 y10 z10
    obtain ⟨rfl, N10q, e10⟩ := hQ10
    have N10 := Fr.app N7 N10q
    have pre10 : PQ p e below m S0 T10 21 #[rv a1, iv p2, iv 0, iv 2] [(.int (own_f37 (2 : Int32) (2 : Int32)))] := fun t kt => pre9 t (st10 _ kt)
    rw [show own_f37 (2 : Int32) (2 : Int32) = (2 : Int32) from by decide] at pre10
    have pre11 : PQ p e below m S0 T10 33 #[rv a1, iv p2, iv 0, iv 2] [(.int 2), (.int 0), (.int p2), (.ref a1)] := by
      intro t kt
      refine pre10 t ?_
      refine ow_istoreN X10.here hx hby d43_21 (l' := #[rv a1, iv p2, iv 0, iv 2]) rfl ?_
      refine ow_iloadN X10.here hx hby d43_22 rfl ?_
      refine ow_iloadN X10.here hx hby d43_23 rfl ?_
      refine ow_icmpYes X10.here hx hby d43_24 (tlt (by decide)).1 (pc' := 29) (by decide) (by decide) ?_
      refine ow_aloadN X10.here hx hby d43_29 rfl rfl ?_
      refine ow_iloadN X10.here hx hby d43_30 rfl ?_
      refine ow_iloadN X10.here hx hby d43_31 rfl ?_
      refine ow_iloadN X10.here hx hby d43_32 rfl ?_
      exact kt
    obtain ⟨_, _, ⟨T12, L12, k12, n12⟩, -, X12, ⟨Lc12, hQ12, l12, y12, z12⟩, st12⟩ := Jvm.LawKit.callS X10 hx (y := mn27) hown (mw hZ hw 193 rfl) (mw hZ hw 194 rfl) (mw hZ hw 60 rfl) (mw hZ hw 195 rfl) (by decide) (backOf (W := 0) (rm45_2 l Z a0 hw [] a1 p2 (0 : Int32) (2 : Int32) kd x0 x1 h0 n0 Z0 V_a1 (rfl) (rfl)) hZ (wi hw 195 rfl) (wi hw 60 rfl) (by decide) (by decide)) (g := (mkF m 33 #[rv a1, iv p2, iv 0, iv 2] [(.int 2), (.int 0), (.int p2), (.ref a1)])) rfl (by rw [hml]; rfl) (argsL := [(.ref a1), (.int p2), (.int 0), (.int 2)]) (rest := []) (lenOf pd_9 rfl) rfl (by show 2 * 0 + _ ≤ _; exact Nat.le_of_eq rfl) (hb hby d43_33) (fun _ _ => ⟨rfl, e10, (Nat.zero_le _), (Nat.zero_le _)⟩)
    dsimp only [Pt.U, Pt.locs, Pt.cells, Pt.slots] at X12 l12 y12 z12 st12 hQ12
    subst l12 y12 z12
    obtain ⟨rfl, N12q, e12⟩ := hQ12
    have N12 := Fr.app N10 N12q
    have pre12 : PQ p e below m S0 T12 36 #[rv a1, iv p2, iv 0, iv 2] [(.int (own_i2 p2.toInt8.toInt32 x0 x1))] := fun t kt => pre11 t (st12 _ kt)
    have hres : (own_i2 p2.toInt8.toInt32 x0 x1) = (own_j2 p2 x0 x1) := by simp [own_j2, hc4]
    obtain ⟨fs, hr, hu, hd, hW, hme⟩ := X12.leave (v := some (.int (own_i2 p2.toInt8.toInt32 x0 x1))) (fun h => by rw [Bd.returns] at h; cases h)
    refine ⟨_, _, pre12 _ ?_, hu, hd, _, _, rfl, ?_, ⟨_, rfl⟩, hW, hme.mono (by decide) (by decide)⟩
    · show SQ p e below m T12 36 #[rv a1, iv p2, iv 0, iv 2] [(.int (own_i2 p2.toInt8.toInt32 x0 x1))] _
      exact retI X12 hx Bd.returns (hb hby d43_36) hr
    · show Qrm43_2 Z a1 p2 (0 : Int32) (2 : Int32) kd x0 x1 h0 n0 _ T12.heap _
      rw [e12]
      exact ⟨congrArg some (congrArg Value.int hres), N12, rfl⟩
def Qrm41_1 (Z : State) (p1 p2 p3 : Int32) (u4 : Value) (h0 : Heap) (n0 : Nat) (v : Option Value) (h : Heap) (L : List Loc) : Prop := v = some (.int 0) ∧ Fr n0 L ∧ h = h0
theorem d41_0 : decode kb21 0 = .ok (.iload_n 0, 1) := by decide +kernel
theorem d41_1 : decode kb21 1 = .ok (.ifCond .lt 13, 3) := by decide +kernel
theorem d41_4 : decode kb21 4 = .ok (.iload_n 0, 1) := by decide +kernel
theorem d41_5 : decode kb21 5 = .ok (.iload_n 1, 1) := by decide +kernel
theorem d41_6 : decode kb21 6 = .ok (.if_icmp .gt 8, 3) := by decide +kernel
theorem d41_9 : decode kb21 9 = .ok (.iload_n 1, 1) := by decide +kernel
theorem d41_10 : decode kb21 10 = .ok (.iload_n 2, 1) := by decide +kernel
theorem d41_11 : decode kb21 11 = .ok (.if_icmp .le 11, 3) := by decide +kernel
theorem d41_22 : decode kb21 22 = .ok (.iload_n 0, 1) := by decide +kernel
theorem d41_23 : decode kb21 23 = .ok (.ireturn, 1) := by decide +kernel
theorem ef_41 (m : MethodId) (x0 x1 x2 : Int32) {x3 : Value} (hx3 : x3.isRef = true) : entryFrame m #[(.int x0), (.int x1), (.int x2), x3] 4 = mkF m 0 #[iv x0, iv x1, iv x2, .val x3] [] := by rcases ref_cases hx3 with rfl | ⟨_, rfl⟩ <;> first | (simp [entryFrame, mkF, argsToLocals, Value.category]; done) | rfl
theorem rm41_1 (l : Launch) (Z : State) (a0 : Array Value) (hw : HW a0 Z) (ws : List Jvm.Cond) (p1 p2 p3 : Int32) (u4 : Value) (h0 : Heap) (n0 : Nat) (Z0 : n0 ≤ h0.size) (hu4 : u4.isRef = true) (hp1 : p1 = (0 : Int32)) (hp2 : p2 = (1 : Int32)) (hp3 : p3 = (1 : Int32)) :
    MF l Z h0 mn28 kb21 4 (some .int) ws ro0 #[(.int p1), (.int p2), (.int p3), u4] (Qrm41_1 Z p1 p2 p3 u4 h0 n0) := by
  refine own_go "jdk/internal/util/Preconditions" rfl #[iv p1, iv p2, iv p3, .val u4] (fun m => ef_41 m p1 p2 p3 hu4) (plainFor_of_name pn_3) ?_
  intro p e s m below meth c s₁ S0 Bd hx hby hml hown hZ X0 e0 pre0
  have N0 := Fr.nil n0
  subst hp1
  subst hp2
  subst hp3
  have pre1 : PQ p e below m S0 s₁ 23 #[iv 0, iv 1, iv 1, .val u4] [(.int 0)] := by
    intro t kt
    refine pre0 t ?_
    refine ow_iloadN X0.here hx hby d41_0 rfl ?_
    refine ow_ifNo X0.here hx hby d41_1 ((if0 _ _).trans (flt (by decide)).1) ?_
    refine ow_iloadN X0.here hx hby d41_4 rfl ?_
    refine ow_iloadN X0.here hx hby d41_5 rfl ?_
    refine ow_icmpNo X0.here hx hby d41_6 (flt (by decide)).2.2.1 ?_
    refine ow_iloadN X0.here hx hby d41_9 rfl ?_
    refine ow_iloadN X0.here hx hby d41_10 rfl ?_
    refine ow_icmpYes X0.here hx hby d41_11 (flt (by decide)).2.2.2 (pc' := 22) (by decide) (by decide) ?_
    refine ow_iloadN X0.here hx hby d41_22 rfl ?_
    exact kt
  obtain ⟨fs, hr, hu, hd, hW, hme⟩ := X0.leave (v := some (.int 0)) (fun h => by rw [Bd.returns] at h; cases h)
  refine ⟨_, _, pre1 _ ?_, hu, hd, _, _, rfl, ?_, ⟨_, rfl⟩, hW, hme.mono (by decide) (by decide)⟩
  · show SQ p e below m s₁ 23 #[iv 0, iv 1, iv 1, .val u4] [(.int 0)] _
    exact retI X0 hx Bd.returns (hb hby d41_23) hr
  · show Qrm41_1 Z (0 : Int32) (1 : Int32) (1 : Int32) u4 h0 n0 _ s₁.heap _
    rw [e0]
    exact ⟨rfl, N0, rfl⟩
def Qrm41_2 (Z : State) (p1 p2 p3 : Int32) (u4 : Value) (h0 : Heap) (n0 : Nat) (v : Option Value) (h : Heap) (L : List Loc) : Prop := v = some (.int 0) ∧ Fr n0 L ∧ h = h0

theorem rm41_2 (l : Launch) (Z : State) (a0 : Array Value) (hw : HW a0 Z) (ws : List Jvm.Cond) (p1 p2 p3 : Int32) (u4 : Value) (h0 : Heap) (n0 : Nat) (Z0 : n0 ≤ h0.size) (hu4 : u4.isRef = true) (hp1 : p1 = (0 : Int32)) (hp2 : p2 = (2 : Int32)) (hp3 : p3 = (2 : Int32)) :
    MF l Z h0 mn28 kb21 4 (some .int) ws ro0 #[(.int p1), (.int p2), (.int p3), u4] (Qrm41_2 Z p1 p2 p3 u4 h0 n0) := by
  refine own_go "jdk/internal/util/Preconditions" rfl #[iv p1, iv p2, iv p3, .val u4] (fun m => ef_41 m p1 p2 p3 hu4) (plainFor_of_name pn_3) ?_
  intro p e s m below meth c s₁ S0 Bd hx hby hml hown hZ X0 e0 pre0
  have N0 := Fr.nil n0
  subst hp1
  subst hp2
  subst hp3
  have pre1 : PQ p e below m S0 s₁ 23 #[iv 0, iv 2, iv 2, .val u4] [(.int 0)] := by
    intro t kt
    refine pre0 t ?_
    refine ow_iloadN X0.here hx hby d41_0 rfl ?_
    refine ow_ifNo X0.here hx hby d41_1 ((if0 _ _).trans (flt (by decide)).1) ?_
    refine ow_iloadN X0.here hx hby d41_4 rfl ?_
    refine ow_iloadN X0.here hx hby d41_5 rfl ?_
    refine ow_icmpNo X0.here hx hby d41_6 (flt (by decide)).2.2.1 ?_
    refine ow_iloadN X0.here hx hby d41_9 rfl ?_
    refine ow_iloadN X0.here hx hby d41_10 rfl ?_
    refine ow_icmpYes X0.here hx hby d41_11 (flt (by decide)).2.2.2 (pc' := 22) (by decide) (by decide) ?_
    refine ow_iloadN X0.here hx hby d41_22 rfl ?_
    exact kt
  obtain ⟨fs, hr, hu, hd, hW, hme⟩ := X0.leave (v := some (.int 0)) (fun h => by rw [Bd.returns] at h; cases h)
  refine ⟨_, _, pre1 _ ?_, hu, hd, _, _, rfl, ?_, ⟨_, rfl⟩, hW, hme.mono (by decide) (by decide)⟩
  · show SQ p e below m s₁ 23 #[iv 0, iv 2, iv 2, .val u4] [(.int 0)] _
    exact retI X0 hx Bd.returns (hb hby d41_23) hr
  · show Qrm41_2 Z (0 : Int32) (2 : Int32) (2 : Int32) u4 h0 n0 _ s₁.heap _
    rw [e0]
    exact ⟨rfl, N0, rfl⟩
def Qrm40_1 (Z : State) (p1 p2 p3 : Int32) (fm : Value) (h0 : Heap) (n0 : Nat) (v : Option Value) (h : Heap) (L : List Loc) : Prop := v = none ∧ Fr n0 L ∧ h = h0
theorem d40_0 : decode kb32 0 = .ok (.iload_n 0, 1) := by decide +kernel
theorem d40_1 : decode kb32 1 = .ok (.iload_n 1, 1) := by decide +kernel
theorem d40_2 : decode kb32 2 = .ok (.iload_n 2, 1) := by decide +kernel
theorem d40_3 : decode kb32 3 = .ok (.getstatic 1053, 3) := by decide +kernel
theorem d40_6 : decode kb32 6 = .ok (.invokestatic 1062, 3) := by decide +kernel
theorem d40_9 : decode kb32 9 = .ok (.pop, 1) := by decide +kernel
theorem d40_10 : decode kb32 10 = .ok (.return_, 1) := by decide +kernel
theorem ef_40 (m : MethodId) (x0 x1 x2 : Int32) : entryFrame m #[(.int x0), (.int x1), (.int x2)] 3 = mkF m 0 #[iv x0, iv x1, iv x2] [] := by first | (simp [entryFrame, mkF, argsToLocals, Value.category]; done) | rfl
theorem rm40_1 (l : Launch) (Z : State) (a0 : Array Value) (hw : HW a0 Z) (ws : List Jvm.Cond) (p1 p2 p3 : Int32) (fm : Value) (h0 : Heap) (n0 : Nat) (Z0 : n0 ≤ h0.size) (sF : sta3 Z h0 fm) (hFM : fm.isRef = true) (hp1 : p1 = (0 : Int32)) (hp2 : p2 = (1 : Int32)) (hp3 : p3 = (1 : Int32)) :
    MF l Z h0 mn29 kb32 3 none ws ({ frames := 1, cells := 0, slots := 0, locals := 15 } : Room) #[(.int p1), (.int p2), (.int p3)] (Qrm40_1 Z p1 p2 p3 fm h0 n0) := by
  refine own_go "java/lang/String" rfl #[iv p1, iv p2, iv p3] (fun m => ef_40 m p1 p2 p3) (plainFor_of_name pn_4) ?_
  intro p e s m below meth c s₁ S0 Bd hx hby hml hown hZ X0 e0 pre0
  have N0 := Fr.nil n0
  subst hp1
  subst hp2
  subst hp3
  have pre1 : PQ p e below m S0 s₁ 3 #[iv 0, iv 1, iv 1] [(.int 1), (.int 1), (.int 0)] := by
    intro t kt
    refine pre0 t ?_
    refine ow_iloadN X0.here hx hby d40_0 rfl ?_
    refine ow_iloadN X0.here hx hby d40_1 rfl ?_
    refine ow_iloadN X0.here hx hby d40_2 rfl ?_
    exact kt
  obtain ⟨T2, X2, e2, st2⟩ := getS2 X0 hx hZ hown (host := "") (Or.inl (wi hw 90 rfl)) Via.refl e0 sF (g := (mkF m 3 #[iv 0, iv 1, iv 1] [(.int 1), (.int 1), (.int 0)])) rfl (hb hby d40_3)
  have pre2 : PQ p e below m S0 T2 6 #[iv 0, iv 1, iv 1] [fm, (.int 1), (.int 1), (.int 0)] := fun t kt => pre1 t (st2 _ kt)
  obtain ⟨_, _, ⟨T3, L3, k3, n3⟩, -, X3, ⟨Lc3, hQ3, l3, y3, z3⟩, st3⟩ := Jvm.LawKit.callS X2 hx (y := mn28) hown (mw hZ hw 179 rfl) (mw hZ hw 180 rfl) (mw hZ hw 91 rfl) (mw hZ hw 181 rfl) (by decide) (backOf (W := 0) (rm41_1 l Z a0 hw [] (0 : Int32) (1 : Int32) (1 : Int32) fm h0 n0 Z0 (hFM) (rfl) (rfl) (rfl)) hZ (wi hw 181 rfl) (wi hw 91 rfl) (by decide) (by decide)) (g := (mkF m 6 #[iv 0, iv 1, iv 1] [fm, (.int 1), (.int 1), (.int 0)])) rfl (by rw [hml]; rfl) (argsL := [(.int 0), (.int 1), (.int 1), fm]) (rest := []) (lenOf pd_10 rfl) rfl (by show 2 * 0 + _ ≤ _; exact Nat.le_of_eq rfl) (hb hby d40_6) (fun _ _ => ⟨rfl, e2, (Nat.zero_le _), (Nat.zero_le _)⟩)
  dsimp only [Pt.U, Pt.locs, Pt.cells, Pt.slots] at X3 l3 y3 z3 st3 hQ3
  subst l3 y3 z3
  obtain ⟨rfl, N3q, e3⟩ := hQ3
  have N3 := Fr.app N0 N3q
  have pre3 : PQ p e below m S0 T3 9 #[iv 0, iv 1, iv 1] [(.int 0)] := fun t kt => pre2 t (st3 _ kt)
  have pre4 : PQ p e below m S0 T3 10 #[iv 0, iv 1, iv 1] [] := by
    intro t kt
    refine pre3 t ?_
    refine XS.pop X3.here hx rfl (hb hby d40_9) rfl rfl ?_
    exact kt
  obtain ⟨fs, hr, hu, hd, hW, hme⟩ := X3.leave (v := none) (fun _ => rfl)
  refine ⟨_, _, pre4 _ ?_, hu, hd, _, _, rfl, ?_, ⟨_, rfl⟩, hW, hme.mono (by decide) (by decide)⟩
  · show SQ p e below m T3 10 #[iv 0, iv 1, iv 1] [] _
    exact X3.returnOut hx Bd.returns (hb hby d40_10) hr
  · show Qrm40_1 Z (0 : Int32) (1 : Int32) (1 : Int32) fm h0 n0 _ T3.heap _
    rw [e3]
    exact ⟨rfl, N3, rfl⟩
def Qrm40_2 (Z : State) (p1 p2 p3 : Int32) (fm : Value) (h0 : Heap) (n0 : Nat) (v : Option Value) (h : Heap) (L : List Loc) : Prop := v = none ∧ Fr n0 L ∧ h = h0

theorem rm40_2 (l : Launch) (Z : State) (a0 : Array Value) (hw : HW a0 Z) (ws : List Jvm.Cond) (p1 p2 p3 : Int32) (fm : Value) (h0 : Heap) (n0 : Nat) (Z0 : n0 ≤ h0.size) (sF : sta3 Z h0 fm) (hFM : fm.isRef = true) (hp1 : p1 = (0 : Int32)) (hp2 : p2 = (2 : Int32)) (hp3 : p3 = (2 : Int32)) :
    MF l Z h0 mn29 kb32 3 none ws ({ frames := 1, cells := 0, slots := 0, locals := 15 } : Room) #[(.int p1), (.int p2), (.int p3)] (Qrm40_2 Z p1 p2 p3 fm h0 n0) := by
  refine own_go "java/lang/String" rfl #[iv p1, iv p2, iv p3] (fun m => ef_40 m p1 p2 p3) (plainFor_of_name pn_4) ?_
  intro p e s m below meth c s₁ S0 Bd hx hby hml hown hZ X0 e0 pre0
  have N0 := Fr.nil n0
  subst hp1
  subst hp2
  subst hp3
  have pre1 : PQ p e below m S0 s₁ 3 #[iv 0, iv 2, iv 2] [(.int 2), (.int 2), (.int 0)] := by
    intro t kt
    refine pre0 t ?_
    refine ow_iloadN X0.here hx hby d40_0 rfl ?_
    refine ow_iloadN X0.here hx hby d40_1 rfl ?_
    refine ow_iloadN X0.here hx hby d40_2 rfl ?_
    exact kt
  obtain ⟨T2, X2, e2, st2⟩ := getS2 X0 hx hZ hown (host := "") (Or.inl (wi hw 90 rfl)) Via.refl e0 sF (g := (mkF m 3 #[iv 0, iv 2, iv 2] [(.int 2), (.int 2), (.int 0)])) rfl (hb hby d40_3)
  have pre2 : PQ p e below m S0 T2 6 #[iv 0, iv 2, iv 2] [fm, (.int 2), (.int 2), (.int 0)] := fun t kt => pre1 t (st2 _ kt)
  obtain ⟨_, _, ⟨T3, L3, k3, n3⟩, -, X3, ⟨Lc3, hQ3, l3, y3, z3⟩, st3⟩ := Jvm.LawKit.callS X2 hx (y := mn28) hown (mw hZ hw 179 rfl) (mw hZ hw 180 rfl) (mw hZ hw 91 rfl) (mw hZ hw 181 rfl) (by decide) (backOf (W := 0) (rm41_2 l Z a0 hw [] (0 : Int32) (2 : Int32) (2 : Int32) fm h0 n0 Z0 (hFM) (rfl) (rfl) (rfl)) hZ (wi hw 181 rfl) (wi hw 91 rfl) (by decide) (by decide)) (g := (mkF m 6 #[iv 0, iv 2, iv 2] [fm, (.int 2), (.int 2), (.int 0)])) rfl (by rw [hml]; rfl) (argsL := [(.int 0), (.int 2), (.int 2), fm]) (rest := []) (lenOf pd_10 rfl) rfl (by show 2 * 0 + _ ≤ _; exact Nat.le_of_eq rfl) (hb hby d40_6) (fun _ _ => ⟨rfl, e2, (Nat.zero_le _), (Nat.zero_le _)⟩)
  dsimp only [Pt.U, Pt.locs, Pt.cells, Pt.slots] at X3 l3 y3 z3 st3 hQ3
  subst l3 y3 z3
  obtain ⟨rfl, N3q, e3⟩ := hQ3
  have N3 := Fr.app N0 N3q
  have pre3 : PQ p e below m S0 T3 9 #[iv 0, iv 2, iv 2] [(.int 0)] := fun t kt => pre2 t (st3 _ kt)
  have pre4 : PQ p e below m S0 T3 10 #[iv 0, iv 2, iv 2] [] := by
    intro t kt
    refine pre3 t ?_
    refine XS.pop X3.here hx rfl (hb hby d40_9) rfl rfl ?_
    exact kt
  obtain ⟨fs, hr, hu, hd, hW, hme⟩ := X3.leave (v := none) (fun _ => rfl)
  refine ⟨_, _, pre4 _ ?_, hu, hd, _, _, rfl, ?_, ⟨_, rfl⟩, hW, hme.mono (by decide) (by decide)⟩
  · show SQ p e below m T3 10 #[iv 0, iv 2, iv 2] [] _
    exact X3.returnOut hx Bd.returns (hb hby d40_10) hr
  · show Qrm40_2 Z (0 : Int32) (2 : Int32) (2 : Int32) fm h0 n0 _ T3.heap _
    rw [e3]
    exact ⟨rfl, N3, rfl⟩
def Qrm39_1 (Z : State) (p1 p2 : Int32) (a3 : Addr) (kd : ClassId) (vs : List Value) (fm : Value) (h0 : Heap) (n0 : Nat) (v : Option Value) (h : Heap) (L : List Loc) : Prop := v = none ∧ Fr n0 L ∧ h = h0
theorem d39_0 : decode kb40 0 = .ok (.iload_n 0, 1) := by decide +kernel
theorem d39_1 : decode kb40 1 = .ok (.iload_n 1, 1) := by decide +kernel
theorem d39_2 : decode kb40 2 = .ok (.aload_n 2, 1) := by decide +kernel
theorem d39_3 : decode kb40 3 = .ok (.invokestatic 48, 3) := by decide +kernel
theorem d39_6 : decode kb40 6 = .ok (.invokestatic 241, 3) := by decide +kernel
theorem d39_9 : decode kb40 9 = .ok (.return_, 1) := by decide +kernel
theorem ef_39 (m : MethodId) (x0 x1 : Int32) (x2 : Addr) : entryFrame m #[(.int x0), (.int x1), (.ref x2)] 3 = mkF m 0 #[iv x0, iv x1, rv x2] [] := by first | (simp [entryFrame, mkF, argsToLocals, Value.category]; done) | rfl
theorem rm39_1 (l : Launch) (Z : State) (a0 : Array Value) (hw : HW a0 Z) (ws : List Jvm.Cond) (p1 p2 : Int32) (a3 : Addr) (kd : ClassId) (vs : List Value) (fm : Value) (h0 : Heap) (n0 : Nat) (Z0 : n0 ≤ h0.size) (V_a3 : Arv Z h0 a3 kd .byte (2 : Int32) vs (.int 0)) (sF : sta3 Z h0 fm) (hFM : fm.isRef = true) (hp1 : p1 = (0 : Int32)) (hp2 : p2 = (1 : Int32)) :
    MF l Z h0 mn30 kb40 3 none ws ({ frames := 2, cells := 0, slots := 0, locals := 29 } : Room) #[(.int p1), (.int p2), (.ref a3)] (Qrm39_1 Z p1 p2 a3 kd vs fm h0 n0) := by
  refine own_go "java/lang/StringUTF16" rfl #[iv p1, iv p2, rv a3] (fun m => ef_39 m p1 p2 a3) (plainFor_of_name pn_2) ?_
  intro p e s m below meth c s₁ S0 Bd hx hby hml hown hZ X0 e0 pre0
  have N0 := Fr.nil n0
  subst hp1
  subst hp2
  have pre1 : PQ p e below m S0 s₁ 3 #[iv 0, iv 1, rv a3] [(.ref a3), (.int 1), (.int 0)] := by
    intro t kt
    refine pre0 t ?_
    refine ow_iloadN X0.here hx hby d39_0 rfl ?_
    refine ow_iloadN X0.here hx hby d39_1 rfl ?_
    refine ow_aloadN X0.here hx hby d39_2 rfl rfl ?_
    exact kt
  obtain ⟨_, _, ⟨T2, L2, k2, n2⟩, -, X2, ⟨Lc2, hQ2, l2, y2, z2⟩, st2⟩ := Jvm.LawKit.callS X0 hx (y := mn12) hown (mw hZ hw 147 rfl) (mw hZ hw 148 rfl) (mw hZ hw 114 rfl) (mw hZ hw 149 rfl) (by decide) (backOf (W := 2) (rm33_1 l Z a0 hw [] a3 kd vs h0 n0 Z0 V_a3) hZ (wi hw 149 rfl) (wi hw 114 rfl) (by decide) (by decide)) (g := (mkF m 3 #[iv 0, iv 1, rv a3] [(.ref a3), (.int 1), (.int 0)])) rfl (by rw [hml]; rfl) (argsL := [(.ref a3)]) (rest := [(.int 1), (.int 0)]) (lenOf pd_1 rfl) rfl (by show 2 * 0 + _ ≤ _; exact Nat.le_of_eq rfl) (hb hby d39_3) (fun _ _ => ⟨rfl, e0, (Nat.zero_le _), (Nat.zero_le _)⟩)
  dsimp only [Pt.U, Pt.locs, Pt.cells, Pt.slots] at X2 l2 y2 z2 st2 hQ2
  subst l2 y2 z2
  obtain ⟨rfl, N2q, e2⟩ := hQ2
  have N2 := Fr.app N0 N2q
  have pre2 : PQ p e below m S0 T2 6 #[iv 0, iv 1, rv a3] [(.int 1), (.int 1), (.int 0)] := fun t kt => pre1 t (st2 _ kt)
  obtain ⟨_, _, ⟨T3, L3, k3, n3⟩, -, X3, ⟨Lc3, hQ3, l3, y3, z3⟩, st3⟩ := Jvm.LawKit.callS X2 hx (y := mn29) hown (mw hZ hw 176 rfl) (mw hZ hw 177 rfl) (mw hZ hw 5 rfl) (mw hZ hw 178 rfl) (by decide) (backOf (W := 0) (rm40_1 l Z a0 hw [] (0 : Int32) (1 : Int32) (1 : Int32) fm h0 n0 Z0 sF (hFM) (rfl) (rfl) (rfl)) hZ (wi hw 178 rfl) (wi hw 5 rfl) (by decide) (by decide)) (g := (mkF m 6 #[iv 0, iv 1, rv a3] [(.int 1), (.int 1), (.int 0)])) rfl (by rw [hml]; rfl) (argsL := [(.int 0), (.int 1), (.int 1)]) (rest := []) (lenOf pd_11 rfl) rfl (by show 2 * 0 + _ ≤ _; exact Nat.le_of_eq rfl) (hb hby d39_6) (fun _ _ => ⟨rfl, e2, (Nat.zero_le _), (Nat.zero_le _)⟩)
  dsimp only [Pt.U, Pt.locs, Pt.cells, Pt.slots] at X3 l3 y3 z3 st3 hQ3
  subst l3 y3 z3
  obtain ⟨rfl, N3q, e3⟩ := hQ3
  have N3 := Fr.app N2 N3q
  have pre3 : PQ p e below m S0 T3 9 #[iv 0, iv 1, rv a3] [] := fun t kt => pre2 t (st3 _ kt)
  obtain ⟨fs, hr, hu, hd, hW, hme⟩ := X3.leave (v := none) (fun _ => rfl)
  refine ⟨_, _, pre3 _ ?_, hu, hd, _, _, rfl, ?_, ⟨_, rfl⟩, hW, hme.mono (by decide) (by decide)⟩
  · show SQ p e below m T3 9 #[iv 0, iv 1, rv a3] [] _
    exact X3.returnOut hx Bd.returns (hb hby d39_9) hr
  · show Qrm39_1 Z (0 : Int32) (1 : Int32) a3 kd vs fm h0 n0 _ T3.heap _
    rw [e3]
    exact ⟨rfl, N3, rfl⟩
def Qrm39_2 (Z : State) (p1 p2 : Int32) (a3 : Addr) (kd : ClassId) (vs : List Value) (fm : Value) (h0 : Heap) (n0 : Nat) (v : Option Value) (h : Heap) (L : List Loc) : Prop := v = none ∧ Fr n0 L ∧ h = h0

theorem rm39_2 (l : Launch) (Z : State) (a0 : Array Value) (hw : HW a0 Z) (ws : List Jvm.Cond) (p1 p2 : Int32) (a3 : Addr) (kd : ClassId) (vs : List Value) (fm : Value) (h0 : Heap) (n0 : Nat) (Z0 : n0 ≤ h0.size) (V_a3 : Arv Z h0 a3 kd .byte (4 : Int32) vs (.int 0)) (sF : sta3 Z h0 fm) (hFM : fm.isRef = true) (hp1 : p1 = (0 : Int32)) (hp2 : p2 = (2 : Int32)) :
    MF l Z h0 mn30 kb40 3 none ws ({ frames := 2, cells := 0, slots := 0, locals := 29 } : Room) #[(.int p1), (.int p2), (.ref a3)] (Qrm39_2 Z p1 p2 a3 kd vs fm h0 n0) := by
  refine own_go "java/lang/StringUTF16" rfl #[iv p1, iv p2, rv a3] (fun m => ef_39 m p1 p2 a3) (plainFor_of_name pn_2) ?_
  intro p e s m below meth c s₁ S0 Bd hx hby hml hown hZ X0 e0 pre0
  have N0 := Fr.nil n0
  subst hp1
  subst hp2
  have pre1 : PQ p e below m S0 s₁ 3 #[iv 0, iv 2, rv a3] [(.ref a3), (.int 2), (.int 0)] := by
    intro t kt
    refine pre0 t ?_
    refine ow_iloadN X0.here hx hby d39_0 rfl ?_
    refine ow_iloadN X0.here hx hby d39_1 rfl ?_
    refine ow_aloadN X0.here hx hby d39_2 rfl rfl ?_
    exact kt
  obtain ⟨_, _, ⟨T2, L2, k2, n2⟩, -, X2, ⟨Lc2, hQ2, l2, y2, z2⟩, st2⟩ := Jvm.LawKit.callS X0 hx (y := mn12) hown (mw hZ hw 147 rfl) (mw hZ hw 148 rfl) (mw hZ hw 114 rfl) (mw hZ hw 149 rfl) (by decide) (backOf (W := 2) (rm33_2 l Z a0 hw [] a3 kd vs h0 n0 Z0 V_a3) hZ (wi hw 149 rfl) (wi hw 114 rfl) (by decide) (by decide)) (g := (mkF m 3 #[iv 0, iv 2, rv a3] [(.ref a3), (.int 2), (.int 0)])) rfl (by rw [hml]; rfl) (argsL := [(.ref a3)]) (rest := [(.int 2), (.int 0)]) (lenOf pd_1 rfl) rfl (by show 2 * 0 + _ ≤ _; exact Nat.le_of_eq rfl) (hb hby d39_3) (fun _ _ => ⟨rfl, e0, (Nat.zero_le _), (Nat.zero_le _)⟩)
  dsimp only [Pt.U, Pt.locs, Pt.cells, Pt.slots] at X2 l2 y2 z2 st2 hQ2
  subst l2 y2 z2
  obtain ⟨rfl, N2q, e2⟩ := hQ2
  have N2 := Fr.app N0 N2q
  have pre2 : PQ p e below m S0 T2 6 #[iv 0, iv 2, rv a3] [(.int 2), (.int 2), (.int 0)] := fun t kt => pre1 t (st2 _ kt)
  obtain ⟨_, _, ⟨T3, L3, k3, n3⟩, -, X3, ⟨Lc3, hQ3, l3, y3, z3⟩, st3⟩ := Jvm.LawKit.callS X2 hx (y := mn29) hown (mw hZ hw 176 rfl) (mw hZ hw 177 rfl) (mw hZ hw 5 rfl) (mw hZ hw 178 rfl) (by decide) (backOf (W := 0) (rm40_2 l Z a0 hw [] (0 : Int32) (2 : Int32) (2 : Int32) fm h0 n0 Z0 sF (hFM) (rfl) (rfl) (rfl)) hZ (wi hw 178 rfl) (wi hw 5 rfl) (by decide) (by decide)) (g := (mkF m 6 #[iv 0, iv 2, rv a3] [(.int 2), (.int 2), (.int 0)])) rfl (by rw [hml]; rfl) (argsL := [(.int 0), (.int 2), (.int 2)]) (rest := []) (lenOf pd_11 rfl) rfl (by show 2 * 0 + _ ≤ _; exact Nat.le_of_eq rfl) (hb hby d39_6) (fun _ _ => ⟨rfl, e2, (Nat.zero_le _), (Nat.zero_le _)⟩)
  dsimp only [Pt.U, Pt.locs, Pt.cells, Pt.slots] at X3 l3 y3 z3 st3 hQ3
  subst l3 y3 z3
  obtain ⟨rfl, N3q, e3⟩ := hQ3
  have N3 := Fr.app N2 N3q
  have pre3 : PQ p e below m S0 T3 9 #[iv 0, iv 2, rv a3] [] := fun t kt => pre2 t (st3 _ kt)
  obtain ⟨fs, hr, hu, hd, hW, hme⟩ := X3.leave (v := none) (fun _ => rfl)
  refine ⟨_, _, pre3 _ ?_, hu, hd, _, _, rfl, ?_, ⟨_, rfl⟩, hW, hme.mono (by decide) (by decide)⟩
  · show SQ p e below m T3 9 #[iv 0, iv 2, rv a3] [] _
    exact X3.returnOut hx Bd.returns (hb hby d39_9) hr
  · show Qrm39_2 Z (0 : Int32) (2 : Int32) a3 kd vs fm h0 n0 _ T3.heap _
    rw [e3]
    exact ⟨rfl, N3, rfl⟩
def Qrm42_1 (Z : State) (a1 : Addr) (p2 p3 p4 : Int32) (kd : ClassId) (x0 x1 : Int32) (h0 : Heap) (n0 : Nat) (v : Option Value) (h : Heap) (L : List Loc) : Prop := v = some (.int (own_u1 p2 x0 x1)) ∧ Fr n0 L ∧ h = h0
theorem d42_0 : decode kb17 0 = .ok (.iload_n 2, 1) := by decide +kernel
theorem d42_1 : decode kb17 1 = .ok (.istore 4, 2) := by decide +kernel
theorem d42_3 : decode kb17 3 = .ok (.iload 4, 2) := by decide +kernel
theorem d42_5 : decode kb17 5 = .ok (.iload_n 3, 1) := by decide +kernel
theorem d42_6 : decode kb17 6 = .ok (.if_icmp .ge 22, 3) := by decide +kernel
theorem d42_9 : decode kb17 9 = .ok (.aload_n 0, 1) := by decide +kernel
theorem d42_10 : decode kb17 10 = .ok (.iload 4, 2) := by decide +kernel
theorem d42_12 : decode kb17 12 = .ok (.invokestatic 71, 3) := by decide +kernel
theorem d42_15 : decode kb17 15 = .ok (.iload_n 1, 1) := by decide +kernel
theorem d42_16 : decode kb17 16 = .ok (.if_icmp .ne 6, 3) := by decide +kernel
theorem d42_19 : decode kb17 19 = .ok (.iload 4, 2) := by decide +kernel
theorem d42_21 : decode kb17 21 = .ok (.ireturn, 1) := by decide +kernel
theorem d42_22 : decode kb17 22 = .ok (.iinc 4 1, 3) := by decide +kernel
theorem d42_25 : decode kb17 25 = .ok (.goto (-22), 3) := by decide +kernel
theorem d42_28 : decode kb17 28 = .ok (.iconst (-1), 1) := by decide +kernel
theorem d42_29 : decode kb17 29 = .ok (.ireturn, 1) := by decide +kernel
theorem ef_42 (m : MethodId) (x0 : Addr) (x1 x2 x3 : Int32) : entryFrame m #[(.ref x0), (.int x1), (.int x2), (.int x3)] 5 = mkF m 0 #[rv x0, iv x1, iv x2, iv x3, un] [] := by first | (simp [entryFrame, mkF, argsToLocals, Value.category]; done) | rfl
theorem rm42_1 (l : Launch) (Z : State) (a0 : Array Value) (hw : HW a0 Z) (ws : List Jvm.Cond) (a1 : Addr) (p2 p3 p4 : Int32) (kd : ClassId) (x0 x1 : Int32) (h0 : Heap) (n0 : Nat) (Z0 : n0 ≤ h0.size) (V_a1 : Arv Z h0 a1 kd .byte (2 : Int32) [(.int x0), (.int x1)] (.int 0)) (sA : sta0 Z h0 (.int 1)) (sH : sta1 Z h0 (.int 0)) (sL : sta2 Z h0 (.int 8)) (hp3 : p3 = (0 : Int32)) (hp4 : p4 = (1 : Int32)) :
    MF l Z h0 mn31 kb17 5 (some .int) ws ro1 #[(.ref a1), (.int p2), (.int p3), (.int p4)] (Qrm42_1 Z a1 p2 p3 p4 kd x0 x1 h0 n0) := by
  refine own_go "java/lang/StringUTF16" rfl #[rv a1, iv p2, iv p3, iv p4, un] (fun m => ef_42 m a1 p2 p3 p4) (plainFor_of_name pn_2) ?_
  intro p e s m below meth c s₁ S0 Bd hx hby hml hown hZ X0 e0 pre0
  have N0 := Fr.nil n0
  subst hp3
  subst hp4
  have pre1 : PQ p e below m S0 s₁ 12 #[rv a1, iv p2, iv 0, iv 1, iv 0] [(.int 0), (.ref a1)] := by
    intro t kt
    refine pre0 t ?_
    refine ow_iloadN X0.here hx hby d42_0 rfl ?_
    refine ow_istore X0.here hx hby d42_1 (l' := #[rv a1, iv p2, iv 0, iv 1, iv 0]) rfl ?_
    refine ow_iload X0.here hx hby d42_3 rfl ?_
    refine ow_iloadN X0.here hx hby d42_5 rfl ?_
    refine ow_icmpNo X0.here hx hby d42_6 (tlt (by decide)).2.1 ?_
    refine ow_aloadN X0.here hx hby d42_9 rfl rfl ?_
    refine ow_iload X0.here hx hby d42_10 rfl ?_
    exact kt
  obtain ⟨_, _, ⟨T2, L2, k2, n2⟩, -, X2, ⟨Lc2, hQ2, l2, y2, z2⟩, st2⟩ := Jvm.LawKit.callS X0 hx (y := mn6) hown (mw hZ hw 135 rfl) (mw hZ hw 136 rfl) (mw hZ hw 114 rfl) (mw hZ hw 137 rfl) (by decide) (backOf (W := 0) (rm29_10 l Z a0 hw [] a1 (0 : Int32) kd x0 x1 h0 n0 Z0 V_a1 sA sH sL (rfl)) hZ (wi hw 137 rfl) (wi hw 114 rfl) (by decide) (by decide)) (g := (mkF m 12 #[rv a1, iv p2, iv 0, iv 1, iv 0] [(.int 0), (.ref a1)])) rfl (by rw [hml]; rfl) (argsL := [(.ref a1), (.int 0)]) (rest := []) (lenOf pd_4 rfl) rfl (by show 2 * 0 + _ ≤ _; exact Nat.le_of_eq rfl) (hb hby d42_12) (fun _ _ => ⟨rfl, e0, (Nat.zero_le _), (Nat.zero_le _)⟩)
  dsimp only [Pt.U, Pt.locs, Pt.cells, Pt.slots] at X2 l2 y2 z2 st2 hQ2
  subst l2 y2 z2
  obtain ⟨rfl, N2q, e2⟩ := hQ2
  have N2 := Fr.app N0 N2q
  have pre2 : PQ p e below m S0 T2 15 #[rv a1, iv p2, iv 0, iv 1, iv 0] [(.int (own_pr x0 x1))] := fun t kt => pre1 t (st2 _ kt)
  have pre3 : PQ p e below m S0 T2 16 #[rv a1, iv p2, iv 0, iv 1, iv 0] [(.int p2), (.int (own_pr x0 x1))] := by
    intro t kt
    refine pre2 t ?_
    refine ow_iloadN X2.here hx hby d42_15 rfl ?_
    exact kt
  by_cases hc16 : (own_pr x0 x1) = p2
  · have pre4 : PQ p e below m S0 T2 19 #[rv a1, iv p2, iv 0, iv 1, iv 0] [] := by
      intro t kt
      refine pre3 t ?_
      refine ow_icmpNo X2.here hx hby d42_16 (teq hc16).2 ?_
      exact kt
    have pre5 : PQ p e below m S0 T2 21 #[rv a1, iv p2, iv 0, iv 1, iv 0] [(.int 0)] := by
      intro t kt
      refine pre4 t ?_
      refine ow_iload X2.here hx hby d42_19 rfl ?_
      exact kt
    have hres : (0 : Int32) = (own_u1 p2 x0 x1) := by simp [own_u1, own_i1, hc16]
    obtain ⟨fs, hr, hu, hd, hW, hme⟩ := X2.leave (v := some (.int 0)) (fun h => by rw [Bd.returns] at h; cases h)
    refine ⟨_, _, pre5 _ ?_, hu, hd, _, _, rfl, ?_, ⟨_, rfl⟩, hW, hme.mono (by decide) (by decide)⟩
    · show SQ p e below m T2 21 #[rv a1, iv p2, iv 0, iv 1, iv 0] [(.int 0)] _
      exact retI X2 hx Bd.returns (hb hby d42_21) hr
    · show Qrm42_1 Z a1 p2 (0 : Int32) (1 : Int32) kd x0 x1 h0 n0 _ T2.heap _
      rw [e2]
      exact ⟨congrArg some (congrArg Value.int hres), N2, rfl⟩
  · have pre6 : PQ p e below m S0 T2 22 #[rv a1, iv p2, iv 0, iv 1, iv 0] [] := by
      intro t kt
      refine pre3 t ?_
      refine ow_icmpYes X2.here hx hby d42_16 (feq hc16).2 (pc' := 22) (by decide) (by decide) ?_
      exact kt
    have pre7 : PQ p e below m S0 T2 29 #[rv a1, iv p2, iv 0, iv 1, iv 1] [(.int (-1 : Int32))] := by
      intro t kt
      refine pre6 t ?_
      refine ow_iinc X2.here hx hby d42_22 rfl (l' := #[rv a1, iv p2, iv 0, iv 1, iv 1]) rfl ?_
      show SQ p e below m T2 25 #[rv a1, iv p2, iv 0, iv 1, iv 1] [] _
      refine ow_goto X2.here hx hby d42_25 (pc' := 3) (by decide) (by decide) ?_
      refine ow_iload X2.here hx hby d42_3 rfl ?_
      refine ow_iloadN X2.here hx hby d42_5 rfl ?_
      refine ow_icmpYes X2.here hx hby d42_6 (flt (by decide)).2.1 (pc' := 28) (by decide) (by decide) ?_
      refine ow_iconst X2.here hx hby d42_28 (v := (-1)) rfl ?_
      exact kt
    have hres : (-1 : Int32) = (own_u1 p2 x0 x1) := by simp [own_u1, own_i1, hc16]
    obtain ⟨fs, hr, hu, hd, hW, hme⟩ := X2.leave (v := some (.int (-1 : Int32))) (fun h => by rw [Bd.returns] at h; cases h)
    refine ⟨_, _, pre7 _ ?_, hu, hd, _, _, rfl, ?_, ⟨_, rfl⟩, hW, hme.mono (by decide) (by decide)⟩
    · show SQ p e below m T2 29 #[rv a1, iv p2, iv 0, iv 1, iv 1] [(.int (-1 : Int32))] _
      exact retI X2 hx Bd.returns (hb hby d42_29) hr
    · show Qrm42_1 Z a1 p2 (0 : Int32) (1 : Int32) kd x0 x1 h0 n0 _ T2.heap _
      rw [e2]
      exact ⟨congrArg some (congrArg Value.int hres), N2, rfl⟩
def Qrm42_2 (Z : State) (a1 : Addr) (p2 p3 p4 : Int32) (kd : ClassId) (x0 x1 : Int32) (x2 x3 : Int32) (h0 : Heap) (n0 : Nat) (v : Option Value) (h : Heap) (L : List Loc) : Prop := v = some (.int (own_u2 p2 x0 x1 x2 x3)) ∧ Fr n0 L ∧ h = h0

theorem rm42_2 (l : Launch) (Z : State) (a0 : Array Value) (hw : HW a0 Z) (ws : List Jvm.Cond) (a1 : Addr) (p2 p3 p4 : Int32) (kd : ClassId) (x0 x1 : Int32) (x2 x3 : Int32) (h0 : Heap) (n0 : Nat) (Z0 : n0 ≤ h0.size) (V_a1 : Arv Z h0 a1 kd .byte (4 : Int32) [(.int x0), (.int x1), (.int x2), (.int x3)] (.int 0)) (sA : sta0 Z h0 (.int 1)) (sH : sta1 Z h0 (.int 0)) (sL : sta2 Z h0 (.int 8)) (hp3 : p3 = (0 : Int32)) (hp4 : p4 = (2 : Int32)) :
    MF l Z h0 mn31 kb17 5 (some .int) ws ro1 #[(.ref a1), (.int p2), (.int p3), (.int p4)] (Qrm42_2 Z a1 p2 p3 p4 kd x0 x1 x2 x3 h0 n0) := by
  refine own_go "java/lang/StringUTF16" rfl #[rv a1, iv p2, iv p3, iv p4, un] (fun m => ef_42 m a1 p2 p3 p4) (plainFor_of_name pn_2) ?_
  intro p e s m below meth c s₁ S0 Bd hx hby hml hown hZ X0 e0 pre0
  have N0 := Fr.nil n0
  subst hp3
  subst hp4
  have pre1 : PQ p e below m S0 s₁ 12 #[rv a1, iv p2, iv 0, iv 2, iv 0] [(.int 0), (.ref a1)] := by
    intro t kt
    refine pre0 t ?_
    refine ow_iloadN X0.here hx hby d42_0 rfl ?_
    refine ow_istore X0.here hx hby d42_1 (l' := #[rv a1, iv p2, iv 0, iv 2, iv 0]) rfl ?_
    refine ow_iload X0.here hx hby d42_3 rfl ?_
    refine ow_iloadN X0.here hx hby d42_5 rfl ?_
    refine ow_icmpNo X0.here hx hby d42_6 (tlt (by decide)).2.1 ?_
    refine ow_aloadN X0.here hx hby d42_9 rfl rfl ?_
    refine ow_iload X0.here hx hby d42_10 rfl ?_
    exact kt
  obtain ⟨_, _, ⟨T2, L2, k2, n2⟩, -, X2, ⟨Lc2, hQ2, l2, y2, z2⟩, st2⟩ := Jvm.LawKit.callS X0 hx (y := mn6) hown (mw hZ hw 135 rfl) (mw hZ hw 136 rfl) (mw hZ hw 114 rfl) (mw hZ hw 137 rfl) (by decide) (backOf (W := 0) (rm29_20 l Z a0 hw [] a1 (0 : Int32) kd x0 x1 x2 x3 h0 n0 Z0 V_a1 sA sH sL (rfl)) hZ (wi hw 137 rfl) (wi hw 114 rfl) (by decide) (by decide)) (g := (mkF m 12 #[rv a1, iv p2, iv 0, iv 2, iv 0] [(.int 0), (.ref a1)])) rfl (by rw [hml]; rfl) (argsL := [(.ref a1), (.int 0)]) (rest := []) (lenOf pd_4 rfl) rfl (by show 2 * 0 + _ ≤ _; exact Nat.le_of_eq rfl) (hb hby d42_12) (fun _ _ => ⟨rfl, e0, (Nat.zero_le _), (Nat.zero_le _)⟩)
  dsimp only [Pt.U, Pt.locs, Pt.cells, Pt.slots] at X2 l2 y2 z2 st2 hQ2
  subst l2 y2 z2
  obtain ⟨rfl, N2q, e2⟩ := hQ2
  have N2 := Fr.app N0 N2q
  have pre2 : PQ p e below m S0 T2 15 #[rv a1, iv p2, iv 0, iv 2, iv 0] [(.int (own_pr x0 x1))] := fun t kt => pre1 t (st2 _ kt)
  have pre3 : PQ p e below m S0 T2 16 #[rv a1, iv p2, iv 0, iv 2, iv 0] [(.int p2), (.int (own_pr x0 x1))] := by
    intro t kt
    refine pre2 t ?_
    refine ow_iloadN X2.here hx hby d42_15 rfl ?_
    exact kt
  by_cases hc16 : (own_pr x0 x1) = p2
  · have pre4 : PQ p e below m S0 T2 19 #[rv a1, iv p2, iv 0, iv 2, iv 0] [] := by
      intro t kt
      refine pre3 t ?_
      refine ow_icmpNo X2.here hx hby d42_16 (teq hc16).2 ?_
      exact kt
    have pre5 : PQ p e below m S0 T2 21 #[rv a1, iv p2, iv 0, iv 2, iv 0] [(.int 0)] := by
      intro t kt
      refine pre4 t ?_
      refine ow_iload X2.here hx hby d42_19 rfl ?_
      exact kt
    have hres : (0 : Int32) = (own_u2 p2 x0 x1 x2 x3) := by simp [own_u2, own_i2, hc16]
    obtain ⟨fs, hr, hu, hd, hW, hme⟩ := X2.leave (v := some (.int 0)) (fun h => by rw [Bd.returns] at h; cases h)
    refine ⟨_, _, pre5 _ ?_, hu, hd, _, _, rfl, ?_, ⟨_, rfl⟩, hW, hme.mono (by decide) (by decide)⟩
    · show SQ p e below m T2 21 #[rv a1, iv p2, iv 0, iv 2, iv 0] [(.int 0)] _
      exact retI X2 hx Bd.returns (hb hby d42_21) hr
    · show Qrm42_2 Z a1 p2 (0 : Int32) (2 : Int32) kd x0 x1 x2 x3 h0 n0 _ T2.heap _
      rw [e2]
      exact ⟨congrArg some (congrArg Value.int hres), N2, rfl⟩
  · have pre6 : PQ p e below m S0 T2 22 #[rv a1, iv p2, iv 0, iv 2, iv 0] [] := by
      intro t kt
      refine pre3 t ?_
      refine ow_icmpYes X2.here hx hby d42_16 (feq hc16).2 (pc' := 22) (by decide) (by decide) ?_
      exact kt
    have pre7 : PQ p e below m S0 T2 12 #[rv a1, iv p2, iv 0, iv 2, iv 1] [(.int 1), (.ref a1)] := by
      intro t kt
      refine pre6 t ?_
      refine ow_iinc X2.here hx hby d42_22 rfl (l' := #[rv a1, iv p2, iv 0, iv 2, iv 1]) rfl ?_
      show SQ p e below m T2 25 #[rv a1, iv p2, iv 0, iv 2, iv 1] [] _
      refine ow_goto X2.here hx hby d42_25 (pc' := 3) (by decide) (by decide) ?_
      refine ow_iload X2.here hx hby d42_3 rfl ?_
      refine ow_iloadN X2.here hx hby d42_5 rfl ?_
      refine ow_icmpNo X2.here hx hby d42_6 (tlt (by decide)).2.1 ?_
      refine ow_aloadN X2.here hx hby d42_9 rfl rfl ?_
      refine ow_iload X2.here hx hby d42_10 rfl ?_
      exact kt
    obtain ⟨_, _, ⟨T8, L8, k8, n8⟩, -, X8, ⟨Lc8, hQ8, l8, y8, z8⟩, st8⟩ := Jvm.LawKit.callS X2 hx (y := mn6) hown (mw hZ hw 135 rfl) (mw hZ hw 136 rfl) (mw hZ hw 114 rfl) (mw hZ hw 137 rfl) (by decide) (backOf (W := 0) (rm29_21 l Z a0 hw [] a1 (1 : Int32) kd x0 x1 x2 x3 h0 n0 Z0 V_a1 sA sH sL (rfl)) hZ (wi hw 137 rfl) (wi hw 114 rfl) (by decide) (by decide)) (g := (mkF m 12 #[rv a1, iv p2, iv 0, iv 2, iv 1] [(.int 1), (.ref a1)])) rfl (by rw [hml]; rfl) (argsL := [(.ref a1), (.int 1)]) (rest := []) (lenOf pd_4 rfl) rfl (by show 2 * 0 + _ ≤ _; exact Nat.le_of_eq rfl) (hb hby d42_12) (fun _ _ => ⟨rfl, e2, (Nat.zero_le _), (Nat.zero_le _)⟩)
    dsimp only [Pt.U, Pt.locs, Pt.cells, Pt.slots] at X8 l8 y8 z8 st8 hQ8
    subst l8 y8 z8
    obtain ⟨rfl, N8q, e8⟩ := hQ8
    have N8 := Fr.app N2 N8q
    have pre8 : PQ p e below m S0 T8 15 #[rv a1, iv p2, iv 0, iv 2, iv 1] [(.int (own_pr x2 x3))] := fun t kt => pre7 t (st8 _ kt)
    have pre9 : PQ p e below m S0 T8 16 #[rv a1, iv p2, iv 0, iv 2, iv 1] [(.int p2), (.int (own_pr x2 x3))] := by
      intro t kt
      refine pre8 t ?_
      refine ow_iloadN X8.here hx hby d42_15 rfl ?_
      exact kt
    by_cases hc16_1 : (own_pr x2 x3) = p2
    · have pre10 : PQ p e below m S0 T8 19 #[rv a1, iv p2, iv 0, iv 2, iv 1] [] := by
        intro t kt
        refine pre9 t ?_
        refine ow_icmpNo X8.here hx hby d42_16 (teq hc16_1).2 ?_
        exact kt
      have pre11 : PQ p e below m S0 T8 21 #[rv a1, iv p2, iv 0, iv 2, iv 1] [(.int 1)] := by
        intro t kt
        refine pre10 t ?_
        refine ow_iload X8.here hx hby d42_19 rfl ?_
        exact kt
      have hres : (1 : Int32) = (own_u2 p2 x0 x1 x2 x3) := by simp [own_u2, own_i2, hc16, hc16_1]
      obtain ⟨fs, hr, hu, hd, hW, hme⟩ := X8.leave (v := some (.int 1)) (fun h => by rw [Bd.returns] at h; cases h)
      refine ⟨_, _, pre11 _ ?_, hu, hd, _, _, rfl, ?_, ⟨_, rfl⟩, hW, hme.mono (by decide) (by decide)⟩
      · show SQ p e below m T8 21 #[rv a1, iv p2, iv 0, iv 2, iv 1] [(.int 1)] _
        exact retI X8 hx Bd.returns (hb hby d42_21) hr
      · show Qrm42_2 Z a1 p2 (0 : Int32) (2 : Int32) kd x0 x1 x2 x3 h0 n0 _ T8.heap _
        rw [e8]
        exact ⟨congrArg some (congrArg Value.int hres), N8, rfl⟩
    · have pre12 : PQ p e below m S0 T8 22 #[rv a1, iv p2, iv 0, iv 2, iv 1] [] := by
        intro t kt
        refine pre9 t ?_
        refine ow_icmpYes X8.here hx hby d42_16 (feq hc16_1).2 (pc' := 22) (by decide) (by decide) ?_
        exact kt
      have pre13 : PQ p e below m S0 T8 29 #[rv a1, iv p2, iv 0, iv 2, iv 2] [(.int (-1 : Int32))] := by
        intro t kt
        refine pre12 t ?_
        refine ow_iinc X8.here hx hby d42_22 rfl (l' := #[rv a1, iv p2, iv 0, iv 2, iv 2]) rfl ?_
        show SQ p e below m T8 25 #[rv a1, iv p2, iv 0, iv 2, iv 2] [] _
        refine ow_goto X8.here hx hby d42_25 (pc' := 3) (by decide) (by decide) ?_
        refine ow_iload X8.here hx hby d42_3 rfl ?_
        refine ow_iloadN X8.here hx hby d42_5 rfl ?_
        refine ow_icmpYes X8.here hx hby d42_6 (flt (by decide)).2.1 (pc' := 28) (by decide) (by decide) ?_
        refine ow_iconst X8.here hx hby d42_28 (v := (-1)) rfl ?_
        exact kt
      have hres : (-1 : Int32) = (own_u2 p2 x0 x1 x2 x3) := by simp [own_u2, own_i2, hc16, hc16_1]
      obtain ⟨fs, hr, hu, hd, hW, hme⟩ := X8.leave (v := some (.int (-1 : Int32))) (fun h => by rw [Bd.returns] at h; cases h)
      refine ⟨_, _, pre13 _ ?_, hu, hd, _, _, rfl, ?_, ⟨_, rfl⟩, hW, hme.mono (by decide) (by decide)⟩
      · show SQ p e below m T8 29 #[rv a1, iv p2, iv 0, iv 2, iv 2] [(.int (-1 : Int32))] _
        exact retI X8 hx Bd.returns (hb hby d42_29) hr
      · show Qrm42_2 Z a1 p2 (0 : Int32) (2 : Int32) kd x0 x1 x2 x3 h0 n0 _ T8.heap _
        rw [e8]
        exact ⟨congrArg some (congrArg Value.int hres), N8, rfl⟩
def Qrm38_1 (Z : State) (a1 : Addr) (p2 p3 p4 : Int32) (kd : ClassId) (x0 x1 : Int32) (fm : Value) (h0 : Heap) (n0 : Nat) (v : Option Value) (h : Heap) (L : List Loc) : Prop := v = some (.int (own_u1 p2 x0 x1)) ∧ Fr n0 L ∧ h = h0
theorem d38_0 : decode kb22 0 = .ok (.iload_n 2, 1) := by decide +kernel
theorem d38_1 : decode kb22 1 = .ok (.iload_n 3, 1) := by decide +kernel
theorem d38_2 : decode kb22 2 = .ok (.aload_n 0, 1) := by decide +kernel
theorem d38_3 : decode kb22 3 = .ok (.invokestatic 96, 3) := by decide +kernel
theorem d38_6 : decode kb22 6 = .ok (.aload_n 0, 1) := by decide +kernel
theorem d38_7 : decode kb22 7 = .ok (.iload_n 1, 1) := by decide +kernel
theorem d38_8 : decode kb22 8 = .ok (.iload_n 2, 1) := by decide +kernel
theorem d38_9 : decode kb22 9 = .ok (.iload_n 3, 1) := by decide +kernel
theorem d38_10 : decode kb22 10 = .ok (.invokestatic 244, 3) := by decide +kernel
theorem d38_13 : decode kb22 13 = .ok (.ireturn, 1) := by decide +kernel
theorem ef_38 (m : MethodId) (x0 : Addr) (x1 x2 x3 : Int32) : entryFrame m #[(.ref x0), (.int x1), (.int x2), (.int x3)] 4 = mkF m 0 #[rv x0, iv x1, iv x2, iv x3] [] := by first | (simp [entryFrame, mkF, argsToLocals, Value.category]; done) | rfl
theorem rm38_1 (l : Launch) (Z : State) (a0 : Array Value) (hw : HW a0 Z) (ws : List Jvm.Cond) (a1 : Addr) (p2 p3 p4 : Int32) (kd : ClassId) (x0 x1 : Int32) (fm : Value) (h0 : Heap) (n0 : Nat) (Z0 : n0 ≤ h0.size) (V_a1 : Arv Z h0 a1 kd .byte (2 : Int32) [(.int x0), (.int x1)] (.int 0)) (sF : sta3 Z h0 fm) (sA : sta0 Z h0 (.int 1)) (sH : sta1 Z h0 (.int 0)) (sL : sta2 Z h0 (.int 8)) (hFM : fm.isRef = true) (hp3 : p3 = (0 : Int32)) (hp4 : p4 = (1 : Int32)) :
    MF l Z h0 mn32 kb22 4 (some .int) ws ({ frames := 3, cells := 0, slots := 0, locals := 43 } : Room) #[(.ref a1), (.int p2), (.int p3), (.int p4)] (Qrm38_1 Z a1 p2 p3 p4 kd x0 x1 fm h0 n0) := by
  refine own_go "java/lang/StringUTF16" rfl #[rv a1, iv p2, iv p3, iv p4] (fun m => ef_38 m a1 p2 p3 p4) (plainFor_of_name pn_2) ?_
  intro p e s m below meth c s₁ S0 Bd hx hby hml hown hZ X0 e0 pre0
  have N0 := Fr.nil n0
  subst hp3
  subst hp4
  have pre1 : PQ p e below m S0 s₁ 3 #[rv a1, iv p2, iv 0, iv 1] [(.ref a1), (.int 1), (.int 0)] := by
    intro t kt
    refine pre0 t ?_
    refine ow_iloadN X0.here hx hby d38_0 rfl ?_
    refine ow_iloadN X0.here hx hby d38_1 rfl ?_
    refine ow_aloadN X0.here hx hby d38_2 rfl rfl ?_
    exact kt
  obtain ⟨_, _, ⟨T2, L2, k2, n2⟩, -, X2, ⟨Lc2, hQ2, l2, y2, z2⟩, st2⟩ := Jvm.LawKit.callS X0 hx (y := mn30) hown (mw hZ hw 173 rfl) (mw hZ hw 174 rfl) (mw hZ hw 114 rfl) (mw hZ hw 175 rfl) (by decide) (backOf (W := 0) (rm39_1 l Z a0 hw [] (0 : Int32) (1 : Int32) a1 kd [(.int x0), (.int x1)] fm h0 n0 Z0 V_a1 sF (hFM) (rfl) (rfl)) hZ (wi hw 175 rfl) (wi hw 114 rfl) (by decide) (by decide)) (g := (mkF m 3 #[rv a1, iv p2, iv 0, iv 1] [(.ref a1), (.int 1), (.int 0)])) rfl (by rw [hml]; rfl) (argsL := [(.int 0), (.int 1), (.ref a1)]) (rest := []) (lenOf pd_12 rfl) rfl (by show 2 * 0 + _ ≤ _; exact Nat.le_of_eq rfl) (hb hby d38_3) (fun _ _ => ⟨rfl, e0, (Nat.zero_le _), (Nat.zero_le _)⟩)
  dsimp only [Pt.U, Pt.locs, Pt.cells, Pt.slots] at X2 l2 y2 z2 st2 hQ2
  subst l2 y2 z2
  obtain ⟨rfl, N2q, e2⟩ := hQ2
  have N2 := Fr.app N0 N2q
  have pre2 : PQ p e below m S0 T2 6 #[rv a1, iv p2, iv 0, iv 1] [] := fun t kt => pre1 t (st2 _ kt)
  have pre3 : PQ p e below m S0 T2 10 #[rv a1, iv p2, iv 0, iv 1] [(.int 1), (.int 0), (.int p2), (.ref a1)] := by
    intro t kt
    refine pre2 t ?_
    refine ow_aloadN X2.here hx hby d38_6 rfl rfl ?_
    refine ow_iloadN X2.here hx hby d38_7 rfl ?_
    refine ow_iloadN X2.here hx hby d38_8 rfl ?_
    refine ow_iloadN X2.here hx hby d38_9 rfl ?_
    exact kt
  obtain ⟨_, _, ⟨T4, L4, k4, n4⟩, -, X4, ⟨Lc4, hQ4, l4, y4, z4⟩, st4⟩ := Jvm.LawKit.callS X2 hx (y := mn31) hown (mw hZ hw 182 rfl) (mw hZ hw 183 rfl) (mw hZ hw 114 rfl) (mw hZ hw 184 rfl) (by decide) (backOf (W := 0) (rm42_1 l Z a0 hw [] a1 p2 (0 : Int32) (1 : Int32) kd x0 x1 h0 n0 Z0 V_a1 sA sH sL (rfl) (rfl)) hZ (wi hw 184 rfl) (wi hw 114 rfl) (by decide) (by decide)) (g := (mkF m 10 #[rv a1, iv p2, iv 0, iv 1] [(.int 1), (.int 0), (.int p2), (.ref a1)])) rfl (by rw [hml]; rfl) (argsL := [(.ref a1), (.int p2), (.int 0), (.int 1)]) (rest := []) (lenOf pd_9 rfl) rfl (by show 2 * 0 + _ ≤ _; exact Nat.le_of_eq rfl) (hb hby d38_10) (fun _ _ => ⟨rfl, e2, (Nat.zero_le _), (Nat.zero_le _)⟩)
  dsimp only [Pt.U, Pt.locs, Pt.cells, Pt.slots] at X4 l4 y4 z4 st4 hQ4
  subst l4 y4 z4
  obtain ⟨rfl, N4q, e4⟩ := hQ4
  have N4 := Fr.app N2 N4q
  have pre4 : PQ p e below m S0 T4 13 #[rv a1, iv p2, iv 0, iv 1] [(.int (own_u1 p2 x0 x1))] := fun t kt => pre3 t (st4 _ kt)
  obtain ⟨fs, hr, hu, hd, hW, hme⟩ := X4.leave (v := some (.int (own_u1 p2 x0 x1))) (fun h => by rw [Bd.returns] at h; cases h)
  refine ⟨_, _, pre4 _ ?_, hu, hd, _, _, rfl, ?_, ⟨_, rfl⟩, hW, hme.mono (by decide) (by decide)⟩
  · show SQ p e below m T4 13 #[rv a1, iv p2, iv 0, iv 1] [(.int (own_u1 p2 x0 x1))] _
    exact retI X4 hx Bd.returns (hb hby d38_13) hr
  · show Qrm38_1 Z a1 p2 (0 : Int32) (1 : Int32) kd x0 x1 fm h0 n0 _ T4.heap _
    rw [e4]
    exact ⟨rfl, N4, rfl⟩
def Qrm38_2 (Z : State) (a1 : Addr) (p2 p3 p4 : Int32) (kd : ClassId) (x0 x1 : Int32) (x2 x3 : Int32) (fm : Value) (h0 : Heap) (n0 : Nat) (v : Option Value) (h : Heap) (L : List Loc) : Prop := v = some (.int (own_u2 p2 x0 x1 x2 x3)) ∧ Fr n0 L ∧ h = h0

theorem rm38_2 (l : Launch) (Z : State) (a0 : Array Value) (hw : HW a0 Z) (ws : List Jvm.Cond) (a1 : Addr) (p2 p3 p4 : Int32) (kd : ClassId) (x0 x1 : Int32) (x2 x3 : Int32) (fm : Value) (h0 : Heap) (n0 : Nat) (Z0 : n0 ≤ h0.size) (V_a1 : Arv Z h0 a1 kd .byte (4 : Int32) [(.int x0), (.int x1), (.int x2), (.int x3)] (.int 0)) (sF : sta3 Z h0 fm) (sA : sta0 Z h0 (.int 1)) (sH : sta1 Z h0 (.int 0)) (sL : sta2 Z h0 (.int 8)) (hFM : fm.isRef = true) (hp3 : p3 = (0 : Int32)) (hp4 : p4 = (2 : Int32)) :
    MF l Z h0 mn32 kb22 4 (some .int) ws ({ frames := 3, cells := 0, slots := 0, locals := 43 } : Room) #[(.ref a1), (.int p2), (.int p3), (.int p4)] (Qrm38_2 Z a1 p2 p3 p4 kd x0 x1 x2 x3 fm h0 n0) := by
  refine own_go "java/lang/StringUTF16" rfl #[rv a1, iv p2, iv p3, iv p4] (fun m => ef_38 m a1 p2 p3 p4) (plainFor_of_name pn_2) ?_
  intro p e s m below meth c s₁ S0 Bd hx hby hml hown hZ X0 e0 pre0
  have N0 := Fr.nil n0
  subst hp3
  subst hp4
  have pre1 : PQ p e below m S0 s₁ 3 #[rv a1, iv p2, iv 0, iv 2] [(.ref a1), (.int 2), (.int 0)] := by
    intro t kt
    refine pre0 t ?_
    refine ow_iloadN X0.here hx hby d38_0 rfl ?_
    refine ow_iloadN X0.here hx hby d38_1 rfl ?_
    refine ow_aloadN X0.here hx hby d38_2 rfl rfl ?_
    exact kt
  obtain ⟨_, _, ⟨T2, L2, k2, n2⟩, -, X2, ⟨Lc2, hQ2, l2, y2, z2⟩, st2⟩ := Jvm.LawKit.callS X0 hx (y := mn30) hown (mw hZ hw 173 rfl) (mw hZ hw 174 rfl) (mw hZ hw 114 rfl) (mw hZ hw 175 rfl) (by decide) (backOf (W := 0) (rm39_2 l Z a0 hw [] (0 : Int32) (2 : Int32) a1 kd [(.int x0), (.int x1), (.int x2), (.int x3)] fm h0 n0 Z0 V_a1 sF (hFM) (rfl) (rfl)) hZ (wi hw 175 rfl) (wi hw 114 rfl) (by decide) (by decide)) (g := (mkF m 3 #[rv a1, iv p2, iv 0, iv 2] [(.ref a1), (.int 2), (.int 0)])) rfl (by rw [hml]; rfl) (argsL := [(.int 0), (.int 2), (.ref a1)]) (rest := []) (lenOf pd_12 rfl) rfl (by show 2 * 0 + _ ≤ _; exact Nat.le_of_eq rfl) (hb hby d38_3) (fun _ _ => ⟨rfl, e0, (Nat.zero_le _), (Nat.zero_le _)⟩)
  dsimp only [Pt.U, Pt.locs, Pt.cells, Pt.slots] at X2 l2 y2 z2 st2 hQ2
  subst l2 y2 z2
  obtain ⟨rfl, N2q, e2⟩ := hQ2
  have N2 := Fr.app N0 N2q
  have pre2 : PQ p e below m S0 T2 6 #[rv a1, iv p2, iv 0, iv 2] [] := fun t kt => pre1 t (st2 _ kt)
  have pre3 : PQ p e below m S0 T2 10 #[rv a1, iv p2, iv 0, iv 2] [(.int 2), (.int 0), (.int p2), (.ref a1)] := by
    intro t kt
    refine pre2 t ?_
    refine ow_aloadN X2.here hx hby d38_6 rfl rfl ?_
    refine ow_iloadN X2.here hx hby d38_7 rfl ?_
    refine ow_iloadN X2.here hx hby d38_8 rfl ?_
    refine ow_iloadN X2.here hx hby d38_9 rfl ?_
    exact kt
  obtain ⟨_, _, ⟨T4, L4, k4, n4⟩, -, X4, ⟨Lc4, hQ4, l4, y4, z4⟩, st4⟩ := Jvm.LawKit.callS X2 hx (y := mn31) hown (mw hZ hw 182 rfl) (mw hZ hw 183 rfl) (mw hZ hw 114 rfl) (mw hZ hw 184 rfl) (by decide) (backOf (W := 0) (rm42_2 l Z a0 hw [] a1 p2 (0 : Int32) (2 : Int32) kd x0 x1 x2 x3 h0 n0 Z0 V_a1 sA sH sL (rfl) (rfl)) hZ (wi hw 184 rfl) (wi hw 114 rfl) (by decide) (by decide)) (g := (mkF m 10 #[rv a1, iv p2, iv 0, iv 2] [(.int 2), (.int 0), (.int p2), (.ref a1)])) rfl (by rw [hml]; rfl) (argsL := [(.ref a1), (.int p2), (.int 0), (.int 2)]) (rest := []) (lenOf pd_9 rfl) rfl (by show 2 * 0 + _ ≤ _; exact Nat.le_of_eq rfl) (hb hby d38_10) (fun _ _ => ⟨rfl, e2, (Nat.zero_le _), (Nat.zero_le _)⟩)
  dsimp only [Pt.U, Pt.locs, Pt.cells, Pt.slots] at X4 l4 y4 z4 st4 hQ4
  subst l4 y4 z4
  obtain ⟨rfl, N4q, e4⟩ := hQ4
  have N4 := Fr.app N2 N4q
  have pre4 : PQ p e below m S0 T4 13 #[rv a1, iv p2, iv 0, iv 2] [(.int (own_u2 p2 x0 x1 x2 x3))] := fun t kt => pre3 t (st4 _ kt)
  obtain ⟨fs, hr, hu, hd, hW, hme⟩ := X4.leave (v := some (.int (own_u2 p2 x0 x1 x2 x3))) (fun h => by rw [Bd.returns] at h; cases h)
  refine ⟨_, _, pre4 _ ?_, hu, hd, _, _, rfl, ?_, ⟨_, rfl⟩, hW, hme.mono (by decide) (by decide)⟩
  · show SQ p e below m T4 13 #[rv a1, iv p2, iv 0, iv 2] [(.int (own_u2 p2 x0 x1 x2 x3))] _
    exact retI X4 hx Bd.returns (hb hby d38_13) hr
  · show Qrm38_2 Z a1 p2 (0 : Int32) (2 : Int32) kd x0 x1 x2 x3 fm h0 n0 _ T4.heap _
    rw [e4]
    exact ⟨rfl, N4, rfl⟩
def Qrm36_1 (Z : State) (a1 : Addr) (p2 p3 p4 : Int32) (kd : ClassId) (x0 x1 : Int32) (fm : Value) (h0 : Heap) (n0 : Nat) (v : Option Value) (h : Heap) (L : List Loc) : Prop := v = some (.int (own_u1 p2 x0 x1)) ∧ Fr n0 L ∧ h = h0
theorem d36_0 : decode kb9 0 = .ok (.iload_n 2, 1) := by decide +kernel
theorem d36_1 : decode kb9 1 = .ok (.iconst 0, 1) := by decide +kernel
theorem d36_2 : decode kb9 2 = .ok (.invokestatic 224, 3) := by decide +kernel
theorem d36_5 : decode kb9 5 = .ok (.istore_n 2, 1) := by decide +kernel
theorem d36_6 : decode kb9 6 = .ok (.iload_n 3, 1) := by decide +kernel
theorem d36_7 : decode kb9 7 = .ok (.aload_n 0, 1) := by decide +kernel
theorem d36_8 : decode kb9 8 = .ok (.arraylength, 1) := by decide +kernel
theorem d36_9 : decode kb9 9 = .ok (.iconst 1, 1) := by decide +kernel
theorem d36_10 : decode kb9 10 = .ok (.ishr, 1) := by decide +kernel
theorem d36_11 : decode kb9 11 = .ok (.invokestatic 183, 3) := by decide +kernel
theorem d36_14 : decode kb9 14 = .ok (.istore_n 3, 1) := by decide +kernel
theorem d36_15 : decode kb9 15 = .ok (.iload_n 2, 1) := by decide +kernel
theorem d36_16 : decode kb9 16 = .ok (.iload_n 3, 1) := by decide +kernel
theorem d36_17 : decode kb9 17 = .ok (.if_icmp .lt 5, 3) := by decide +kernel
theorem d36_22 : decode kb9 22 = .ok (.iload_n 1, 1) := by decide +kernel
theorem d36_23 : decode kb9 23 = .ok (.ldc 227, 2) := by decide +kernel
theorem d36_25 : decode kb9 25 = .ok (.if_icmp .ge 11, 3) := by decide +kernel
theorem d36_28 : decode kb9 28 = .ok (.aload_n 0, 1) := by decide +kernel
theorem d36_29 : decode kb9 29 = .ok (.iload_n 1, 1) := by decide +kernel
theorem d36_30 : decode kb9 30 = .ok (.iload_n 2, 1) := by decide +kernel
theorem d36_31 : decode kb9 31 = .ok (.iload_n 3, 1) := by decide +kernel
theorem d36_32 : decode kb9 32 = .ok (.invokestatic 228, 3) := by decide +kernel
theorem d36_35 : decode kb9 35 = .ok (.ireturn, 1) := by decide +kernel
theorem ef_36 (m : MethodId) (x0 : Addr) (x1 x2 x3 : Int32) : entryFrame m #[(.ref x0), (.int x1), (.int x2), (.int x3)] 4 = mkF m 0 #[rv x0, iv x1, iv x2, iv x3] [] := by first | (simp [entryFrame, mkF, argsToLocals, Value.category]; done) | rfl
theorem rm36_1 (l : Launch) (Z : State) (a0 : Array Value) (hw : HW a0 Z) (ws : List Jvm.Cond) (a1 : Addr) (p2 p3 p4 : Int32) (kd : ClassId) (x0 x1 : Int32) (fm : Value) (h0 : Heap) (n0 : Nat) (Z0 : n0 ≤ h0.size) (V_a1 : Arv Z h0 a1 kd .byte (2 : Int32) [(.int x0), (.int x1)] (.int 0)) (sF : sta3 Z h0 fm) (sA : sta0 Z h0 (.int 1)) (sH : sta1 Z h0 (.int 0)) (sL : sta2 Z h0 (.int 8)) (hFM : fm.isRef = true) (hp3 : p3 = (0 : Int32)) (hp4 : p4 = (1 : Int32)) (hch : p2 < (65536 : Int32)) :
    MF l Z h0 mn33 kb9 4 (some .int) ws ({ frames := 4, cells := 0, slots := 0, locals := 58 } : Room) #[(.ref a1), (.int p2), (.int p3), (.int p4)] (Qrm36_1 Z a1 p2 p3 p4 kd x0 x1 fm h0 n0) := by
  refine own_go "java/lang/StringUTF16" rfl #[rv a1, iv p2, iv p3, iv p4] (fun m => ef_36 m a1 p2 p3 p4) (plainFor_of_name pn_2) ?_
  intro p e s m below meth c s₁ S0 Bd hx hby hml hown hZ X0 e0 pre0
  have N0 := Fr.nil n0
  subst hp3
  subst hp4
  have pre1 : PQ p e below m S0 s₁ 2 #[rv a1, iv p2, iv 0, iv 1] [(.int 0), (.int 0)] := by
    intro t kt
    refine pre0 t ?_
    refine ow_iloadN X0.here hx hby d36_0 rfl ?_
    refine ow_iconst X0.here hx hby d36_1 (v := 0) rfl ?_
    exact kt
  obtain ⟨_, _, ⟨T2, L2, k2, n2⟩, -, X2, ⟨Lc2, hQ2, l2, y2, z2⟩, st2⟩ := Jvm.LawKit.callS X0 hx (y := mn8) hown (mw hZ hw 165 rfl) (mw hZ hw 96 rfl) (mw hZ hw 97 rfl) (mw hZ hw 98 rfl) (by decide) (backOf (W := 0) (rm19 l Z a0 hw [] (0 : Int32) (0 : Int32) h0 n0) hZ (wi hw 98 rfl) (wi hw 97 rfl) (by decide) (by decide)) (g := (mkF m 2 #[rv a1, iv p2, iv 0, iv 1] [(.int 0), (.int 0)])) rfl (by rw [hml]; rfl) (argsL := [(.int 0), (.int 0)]) (rest := []) (lenOf pd_8 rfl) rfl (by show 2 * 0 + _ ≤ _; exact Nat.le_of_eq rfl) (hb hby d36_2) (fun _ _ => ⟨rfl, e0, (Nat.zero_le _), (Nat.zero_le _)⟩)
  dsimp only [Pt.U, Pt.locs, Pt.cells, Pt.slots] at X2 l2 y2 z2 st2 hQ2
  subst l2 y2 z2
  obtain ⟨rfl, N2q, e2⟩ := hQ2
  have N2 := Fr.app N0 N2q
  have pre2 : PQ p e below m S0 T2 5 #[rv a1, iv p2, iv 0, iv 1] [(.int (own_f19 (0 : Int32) (0 : Int32)))] := fun t kt => pre1 t (st2 _ kt)
  rw [show own_f19 (0 : Int32) (0 : Int32) = (0 : Int32) from by decide] at pre2
  have pre4 : PQ p e below m S0 T2 11 #[rv a1, iv p2, iv 0, iv 1] [(.int 1), (.int 1)] := by
    intro t kt
    refine pre2 t ?_
    refine ow_istoreN X2.here hx hby d36_5 (l' := #[rv a1, iv p2, iv 0, iv 1]) rfl ?_
    refine ow_iloadN X2.here hx hby d36_6 rfl ?_
    refine ow_aloadN X2.here hx hby d36_7 rfl rfl ?_
    obtain ⟨cl3, Ar3, -, S3, M3, -, -⟩ := (id V_a1)
    refine X2.arraylength hx (by rw [e2]; exact Ar3.1) (State.isArrayOf_alike hZ.alike Ar3.2.1) (g := (mkF m 8 #[rv a1, iv p2, iv 0, iv 1] [(.ref a1), (.int 1)])) rfl rfl (hb hby d36_8) _ ?_
    rw [len_of S3 M3]
    show SQ p e below m T2 9 #[rv a1, iv p2, iv 0, iv 1] [(.int 2), (.int 1)] _
    refine ow_iconst X2.here hx hby d36_9 (v := 1) rfl ?_
    refine XS.ishr X2.here hx rfl (hb hby d36_10) rfl ?_
    exact kt
  obtain ⟨_, _, ⟨T5, L5, k5, n5⟩, -, X5, ⟨Lc5, hQ5, l5, y5, z5⟩, st5⟩ := Jvm.LawKit.callS X2 hx (y := mn11) hown (mw hZ hw 166 rfl) (mw hZ hw 167 rfl) (mw hZ hw 97 rfl) (mw hZ hw 168 rfl) (by decide) (backOf (W := 0) (rm37 l Z a0 hw [] (1 : Int32) (1 : Int32) h0 n0) hZ (wi hw 168 rfl) (wi hw 97 rfl) (by decide) (by decide)) (g := (mkF m 11 #[rv a1, iv p2, iv 0, iv 1] [(.int 1), (.int 1)])) rfl (by rw [hml]; rfl) (argsL := [(.int 1), (.int 1)]) (rest := []) (lenOf pd_8 rfl) rfl (by show 2 * 0 + _ ≤ _; exact Nat.le_of_eq rfl) (hb hby d36_11) (fun _ _ => ⟨rfl, e2, (Nat.zero_le _), (Nat.zero_le _)⟩)
  dsimp only [Pt.U, Pt.locs, Pt.cells, Pt.slots] at X5 l5 y5 z5 st5 hQ5
  subst l5 y5 z5
  obtain ⟨rfl, N5q, e5⟩ := hQ5
  have N5 := Fr.app N2 N5q
  have pre5 : PQ p e below m S0 T5 14 #[rv a1, iv p2, iv 0, iv 1] [(.int (own_f37 (1 : Int32) (1 : Int32)))] := fun t kt => pre4 t (st5 _ kt)
  rw [show own_f37 (1 : Int32) (1 : Int32) = (1 : Int32) from by decide] at pre5
  have pre6 : PQ p e below m S0 T5 32 #[rv a1, iv p2, iv 0, iv 1] [(.int 1), (.int 0), (.int p2), (.ref a1)] := by
    intro t kt
    refine pre5 t ?_
    refine ow_istoreN X5.here hx hby d36_14 (l' := #[rv a1, iv p2, iv 0, iv 1]) rfl ?_
    refine ow_iloadN X5.here hx hby d36_15 rfl ?_
    refine ow_iloadN X5.here hx hby d36_16 rfl ?_
    refine ow_icmpYes X5.here hx hby d36_17 (tlt (by decide)).1 (pc' := 22) (by decide) (by decide) ?_
    refine ow_iloadN X5.here hx hby d36_22 rfl ?_
    refine X5.ldcInt hx hown (mw hZ hw 169 rfl) (g := (mkF m 23 #[rv a1, iv p2, iv 0, iv 1] [(.int p2)])) rfl (hb hby d36_23) _ ?_
    show SQ p e below m T5 25 #[rv a1, iv p2, iv 0, iv 1] [(.int 65536), (.int p2)] _
    refine ow_icmpNo X5.here hx hby d36_25 (tlt hch).2.1 ?_
    refine ow_aloadN X5.here hx hby d36_28 rfl rfl ?_
    refine ow_iloadN X5.here hx hby d36_29 rfl ?_
    refine ow_iloadN X5.here hx hby d36_30 rfl ?_
    refine ow_iloadN X5.here hx hby d36_31 rfl ?_
    exact kt
  obtain ⟨_, _, ⟨T7, L7, k7, n7⟩, -, X7, ⟨Lc7, hQ7, l7, y7, z7⟩, st7⟩ := Jvm.LawKit.callS X5 hx (y := mn32) hown (mw hZ hw 170 rfl) (mw hZ hw 171 rfl) (mw hZ hw 114 rfl) (mw hZ hw 172 rfl) (by decide) (backOf (W := 0) (rm38_1 l Z a0 hw [] a1 p2 (0 : Int32) (1 : Int32) kd x0 x1 fm h0 n0 Z0 V_a1 sF sA sH sL (hFM) (rfl) (rfl)) hZ (wi hw 172 rfl) (wi hw 114 rfl) (by decide) (by decide)) (g := (mkF m 32 #[rv a1, iv p2, iv 0, iv 1] [(.int 1), (.int 0), (.int p2), (.ref a1)])) rfl (by rw [hml]; rfl) (argsL := [(.ref a1), (.int p2), (.int 0), (.int 1)]) (rest := []) (lenOf pd_9 rfl) rfl (by show 2 * 0 + _ ≤ _; exact Nat.le_of_eq rfl) (hb hby d36_32) (fun _ _ => ⟨rfl, e5, (Nat.zero_le _), (Nat.zero_le _)⟩)
  dsimp only [Pt.U, Pt.locs, Pt.cells, Pt.slots] at X7 l7 y7 z7 st7 hQ7
  subst l7 y7 z7
  obtain ⟨rfl, N7q, e7⟩ := hQ7
  have N7 := Fr.app N5 N7q
  have pre7 : PQ p e below m S0 T7 35 #[rv a1, iv p2, iv 0, iv 1] [(.int (own_u1 p2 x0 x1))] := fun t kt => pre6 t (st7 _ kt)
  obtain ⟨fs, hr, hu, hd, hW, hme⟩ := X7.leave (v := some (.int (own_u1 p2 x0 x1))) (fun h => by rw [Bd.returns] at h; cases h)
  refine ⟨_, _, pre7 _ ?_, hu, hd, _, _, rfl, ?_, ⟨_, rfl⟩, hW, hme.mono (by decide) (by decide)⟩
  · show SQ p e below m T7 35 #[rv a1, iv p2, iv 0, iv 1] [(.int (own_u1 p2 x0 x1))] _
    exact retI X7 hx Bd.returns (hb hby d36_35) hr
  · show Qrm36_1 Z a1 p2 (0 : Int32) (1 : Int32) kd x0 x1 fm h0 n0 _ T7.heap _
    rw [e7]
    exact ⟨rfl, N7, rfl⟩
def Qrm36_2 (Z : State) (a1 : Addr) (p2 p3 p4 : Int32) (kd : ClassId) (x0 x1 : Int32) (x2 x3 : Int32) (fm : Value) (h0 : Heap) (n0 : Nat) (v : Option Value) (h : Heap) (L : List Loc) : Prop := v = some (.int (own_u2 p2 x0 x1 x2 x3)) ∧ Fr n0 L ∧ h = h0

theorem rm36_2 (l : Launch) (Z : State) (a0 : Array Value) (hw : HW a0 Z) (ws : List Jvm.Cond) (a1 : Addr) (p2 p3 p4 : Int32) (kd : ClassId) (x0 x1 : Int32) (x2 x3 : Int32) (fm : Value) (h0 : Heap) (n0 : Nat) (Z0 : n0 ≤ h0.size) (V_a1 : Arv Z h0 a1 kd .byte (4 : Int32) [(.int x0), (.int x1), (.int x2), (.int x3)] (.int 0)) (sF : sta3 Z h0 fm) (sA : sta0 Z h0 (.int 1)) (sH : sta1 Z h0 (.int 0)) (sL : sta2 Z h0 (.int 8)) (hFM : fm.isRef = true) (hp3 : p3 = (0 : Int32)) (hp4 : p4 = (2 : Int32)) (hch : p2 < (65536 : Int32)) :
    MF l Z h0 mn33 kb9 4 (some .int) ws ({ frames := 4, cells := 0, slots := 0, locals := 58 } : Room) #[(.ref a1), (.int p2), (.int p3), (.int p4)] (Qrm36_2 Z a1 p2 p3 p4 kd x0 x1 x2 x3 fm h0 n0) := by
  refine own_go "java/lang/StringUTF16" rfl #[rv a1, iv p2, iv p3, iv p4] (fun m => ef_36 m a1 p2 p3 p4) (plainFor_of_name pn_2) ?_
  intro p e s m below meth c s₁ S0 Bd hx hby hml hown hZ X0 e0 pre0
  have N0 := Fr.nil n0
  subst hp3
  subst hp4
  have pre1 : PQ p e below m S0 s₁ 2 #[rv a1, iv p2, iv 0, iv 2] [(.int 0), (.int 0)] := by
    intro t kt
    refine pre0 t ?_
    refine ow_iloadN X0.here hx hby d36_0 rfl ?_
    refine ow_iconst X0.here hx hby d36_1 (v := 0) rfl ?_
    exact kt
  obtain ⟨_, _, ⟨T2, L2, k2, n2⟩, -, X2, ⟨Lc2, hQ2, l2, y2, z2⟩, st2⟩ := Jvm.LawKit.callS X0 hx (y := mn8) hown (mw hZ hw 165 rfl) (mw hZ hw 96 rfl) (mw hZ hw 97 rfl) (mw hZ hw 98 rfl) (by decide) (backOf (W := 0) (rm19 l Z a0 hw [] (0 : Int32) (0 : Int32) h0 n0) hZ (wi hw 98 rfl) (wi hw 97 rfl) (by decide) (by decide)) (g := (mkF m 2 #[rv a1, iv p2, iv 0, iv 2] [(.int 0), (.int 0)])) rfl (by rw [hml]; rfl) (argsL := [(.int 0), (.int 0)]) (rest := []) (lenOf pd_8 rfl) rfl (by show 2 * 0 + _ ≤ _; exact Nat.le_of_eq rfl) (hb hby d36_2) (fun _ _ => ⟨rfl, e0, (Nat.zero_le _), (Nat.zero_le _)⟩)
  dsimp only [Pt.U, Pt.locs, Pt.cells, Pt.slots] at X2 l2 y2 z2 st2 hQ2
  subst l2 y2 z2
  obtain ⟨rfl, N2q, e2⟩ := hQ2
  have N2 := Fr.app N0 N2q
  have pre2 : PQ p e below m S0 T2 5 #[rv a1, iv p2, iv 0, iv 2] [(.int (own_f19 (0 : Int32) (0 : Int32)))] := fun t kt => pre1 t (st2 _ kt)
  rw [show own_f19 (0 : Int32) (0 : Int32) = (0 : Int32) from by decide] at pre2
  have pre4 : PQ p e below m S0 T2 11 #[rv a1, iv p2, iv 0, iv 2] [(.int 2), (.int 2)] := by
    intro t kt
    refine pre2 t ?_
    refine ow_istoreN X2.here hx hby d36_5 (l' := #[rv a1, iv p2, iv 0, iv 2]) rfl ?_
    refine ow_iloadN X2.here hx hby d36_6 rfl ?_
    refine ow_aloadN X2.here hx hby d36_7 rfl rfl ?_
    obtain ⟨cl3, Ar3, -, S3, M3, -, -⟩ := (id V_a1)
    refine X2.arraylength hx (by rw [e2]; exact Ar3.1) (State.isArrayOf_alike hZ.alike Ar3.2.1) (g := (mkF m 8 #[rv a1, iv p2, iv 0, iv 2] [(.ref a1), (.int 2)])) rfl rfl (hb hby d36_8) _ ?_
    rw [len_of S3 M3]
    show SQ p e below m T2 9 #[rv a1, iv p2, iv 0, iv 2] [(.int 4), (.int 2)] _
    refine ow_iconst X2.here hx hby d36_9 (v := 1) rfl ?_
    refine XS.ishr X2.here hx rfl (hb hby d36_10) rfl ?_
    exact kt
  obtain ⟨_, _, ⟨T5, L5, k5, n5⟩, -, X5, ⟨Lc5, hQ5, l5, y5, z5⟩, st5⟩ := Jvm.LawKit.callS X2 hx (y := mn11) hown (mw hZ hw 166 rfl) (mw hZ hw 167 rfl) (mw hZ hw 97 rfl) (mw hZ hw 168 rfl) (by decide) (backOf (W := 0) (rm37 l Z a0 hw [] (2 : Int32) (2 : Int32) h0 n0) hZ (wi hw 168 rfl) (wi hw 97 rfl) (by decide) (by decide)) (g := (mkF m 11 #[rv a1, iv p2, iv 0, iv 2] [(.int 2), (.int 2)])) rfl (by rw [hml]; rfl) (argsL := [(.int 2), (.int 2)]) (rest := []) (lenOf pd_8 rfl) rfl (by show 2 * 0 + _ ≤ _; exact Nat.le_of_eq rfl) (hb hby d36_11) (fun _ _ => ⟨rfl, e2, (Nat.zero_le _), (Nat.zero_le _)⟩)
  dsimp only [Pt.U, Pt.locs, Pt.cells, Pt.slots] at X5 l5 y5 z5 st5 hQ5
  subst l5 y5 z5
  obtain ⟨rfl, N5q, e5⟩ := hQ5
  have N5 := Fr.app N2 N5q
  have pre5 : PQ p e below m S0 T5 14 #[rv a1, iv p2, iv 0, iv 2] [(.int (own_f37 (2 : Int32) (2 : Int32)))] := fun t kt => pre4 t (st5 _ kt)
  rw [show own_f37 (2 : Int32) (2 : Int32) = (2 : Int32) from by decide] at pre5
  have pre6 : PQ p e below m S0 T5 32 #[rv a1, iv p2, iv 0, iv 2] [(.int 2), (.int 0), (.int p2), (.ref a1)] := by
    intro t kt
    refine pre5 t ?_
    refine ow_istoreN X5.here hx hby d36_14 (l' := #[rv a1, iv p2, iv 0, iv 2]) rfl ?_
    refine ow_iloadN X5.here hx hby d36_15 rfl ?_
    refine ow_iloadN X5.here hx hby d36_16 rfl ?_
    refine ow_icmpYes X5.here hx hby d36_17 (tlt (by decide)).1 (pc' := 22) (by decide) (by decide) ?_
    refine ow_iloadN X5.here hx hby d36_22 rfl ?_
    refine X5.ldcInt hx hown (mw hZ hw 169 rfl) (g := (mkF m 23 #[rv a1, iv p2, iv 0, iv 2] [(.int p2)])) rfl (hb hby d36_23) _ ?_
    show SQ p e below m T5 25 #[rv a1, iv p2, iv 0, iv 2] [(.int 65536), (.int p2)] _
    refine ow_icmpNo X5.here hx hby d36_25 (tlt hch).2.1 ?_
    refine ow_aloadN X5.here hx hby d36_28 rfl rfl ?_
    refine ow_iloadN X5.here hx hby d36_29 rfl ?_
    refine ow_iloadN X5.here hx hby d36_30 rfl ?_
    refine ow_iloadN X5.here hx hby d36_31 rfl ?_
    exact kt
  obtain ⟨_, _, ⟨T7, L7, k7, n7⟩, -, X7, ⟨Lc7, hQ7, l7, y7, z7⟩, st7⟩ := Jvm.LawKit.callS X5 hx (y := mn32) hown (mw hZ hw 170 rfl) (mw hZ hw 171 rfl) (mw hZ hw 114 rfl) (mw hZ hw 172 rfl) (by decide) (backOf (W := 0) (rm38_2 l Z a0 hw [] a1 p2 (0 : Int32) (2 : Int32) kd x0 x1 x2 x3 fm h0 n0 Z0 V_a1 sF sA sH sL (hFM) (rfl) (rfl)) hZ (wi hw 172 rfl) (wi hw 114 rfl) (by decide) (by decide)) (g := (mkF m 32 #[rv a1, iv p2, iv 0, iv 2] [(.int 2), (.int 0), (.int p2), (.ref a1)])) rfl (by rw [hml]; rfl) (argsL := [(.ref a1), (.int p2), (.int 0), (.int 2)]) (rest := []) (lenOf pd_9 rfl) rfl (by show 2 * 0 + _ ≤ _; exact Nat.le_of_eq rfl) (hb hby d36_32) (fun _ _ => ⟨rfl, e5, (Nat.zero_le _), (Nat.zero_le _)⟩)
  dsimp only [Pt.U, Pt.locs, Pt.cells, Pt.slots] at X7 l7 y7 z7 st7 hQ7
  subst l7 y7 z7
  obtain ⟨rfl, N7q, e7⟩ := hQ7
  have N7 := Fr.app N5 N7q
  have pre7 : PQ p e below m S0 T7 35 #[rv a1, iv p2, iv 0, iv 2] [(.int (own_u2 p2 x0 x1 x2 x3))] := fun t kt => pre6 t (st7 _ kt)
  obtain ⟨fs, hr, hu, hd, hW, hme⟩ := X7.leave (v := some (.int (own_u2 p2 x0 x1 x2 x3))) (fun h => by rw [Bd.returns] at h; cases h)
  refine ⟨_, _, pre7 _ ?_, hu, hd, _, _, rfl, ?_, ⟨_, rfl⟩, hW, hme.mono (by decide) (by decide)⟩
  · show SQ p e below m T7 35 #[rv a1, iv p2, iv 0, iv 2] [(.int (own_u2 p2 x0 x1 x2 x3))] _
    exact retI X7 hx Bd.returns (hb hby d36_35) hr
  · show Qrm36_2 Z a1 p2 (0 : Int32) (2 : Int32) kd x0 x1 x2 x3 fm h0 n0 _ T7.heap _
    rw [e7]
    exact ⟨rfl, N7, rfl⟩
def Qrm35_00 (Z : State) (a1 : Addr) (p2 p3 : Int32) (tb : Addr) (kd : ClassId) (cz : Int32) (fm : Value) (h0 : Heap) (n0 : Nat) (v : Option Value) (h : Heap) (L : List Loc) : Prop := v = some (.int (own_j0 p2 )) ∧ Fr n0 L ∧ h = h0
theorem d35_0 : decode kb10 0 = .ok (.aload_n 0, 1) := by decide +kernel
theorem d35_1 : decode kb10 1 = .ok (.invokevirtual 492, 3) := by decide +kernel
theorem d35_4 : decode kb10 4 = .ok (.ifCond .eq 19, 3) := by decide +kernel
theorem d35_7 : decode kb10 7 = .ok (.aload_n 0, 1) := by decide +kernel
theorem d35_8 : decode kb10 8 = .ok (.getfield 9, 3) := by decide +kernel
theorem d35_11 : decode kb10 11 = .ok (.iload_n 1, 1) := by decide +kernel
theorem d35_12 : decode kb10 12 = .ok (.iload_n 2, 1) := by decide +kernel
theorem d35_13 : decode kb10 13 = .ok (.aload_n 0, 1) := by decide +kernel
theorem d35_14 : decode kb10 14 = .ok (.invokevirtual 505, 3) := by decide +kernel
theorem d35_17 : decode kb10 17 = .ok (.invokestatic 637, 3) := by decide +kernel
theorem d35_20 : decode kb10 20 = .ok (.goto 16, 3) := by decide +kernel
theorem d35_36 : decode kb10 36 = .ok (.ireturn, 1) := by decide +kernel
theorem ef_35 (m : MethodId) (x0 : Addr) (x1 x2 : Int32) : entryFrame m #[(.ref x0), (.int x1), (.int x2)] 3 = mkF m 0 #[rv x0, iv x1, iv x2] [] := by first | (simp [entryFrame, mkF, argsToLocals, Value.category]; done) | rfl
theorem rm35_00 (l : Launch) (Z : State) (a0 : Array Value) (hw : HW a0 Z) (ws : List Jvm.Cond) (a1 : Addr) (p2 p3 : Int32) (tb : Addr) (kd : ClassId) (cz : Int32) (fm : Value) (h0 : Heap) (n0 : Nat) (Z0 : n0 ≤ h0.size) (E_a1 : exa0 Z h0 a1) (Fv_a1 : fld1 Z h0 a1 (.ref tb)) (Fc_a1 : fld0 Z h0 a1 (.int 0)) (V_tb : Arv Z h0 tb kd .byte (0 : Int32) [] (.int 0)) (sC : sta4 Z h0 (.int cz)) (sF : sta3 Z h0 fm) (sA : sta0 Z h0 (.int 1)) (sH : sta1 Z h0 (.int 0)) (sL : sta2 Z h0 (.int 8)) (hCS : ¬ (cz = (0 : Int32))) (hFM : fm.isRef = true) (hp3 : p3 = (0 : Int32)) (hch : p2 < (65536 : Int32)) :
    MF l Z h0 mn3 kb10 3 (some .int) ws ({ frames := 2, cells := 0, slots := 0, locals := 28 } : Room) #[(.ref a1), (.int p2), (.int p3)] (Qrm35_00 Z a1 p2 p3 tb kd cz fm h0 n0) := by
  refine own_go "java/lang/String" rfl #[rv a1, iv p2, iv p3] (fun m => ef_35 m a1 p2 p3) (plainFor_of_name pn_4) ?_
  intro p e s m below meth c s₁ S0 Bd hx hby hml hown hZ X0 e0 pre0
  have N0 := Fr.nil n0
  subst hp3
  have pre1 : PQ p e below m S0 s₁ 1 #[rv a1, iv p2, iv 0] [(.ref a1)] := by
    intro t kt
    refine pre0 t ?_
    refine ow_aloadN X0.here hx hby d35_0 rfl rfl ?_
    exact kt
  obtain ⟨cq2, kq2, q2a, q2b, q2c⟩ := isOf hZ e0 E_a1
  obtain ⟨_, _, ⟨T2, L2, k2, n2⟩, -, X2, ⟨Lc2, hQ2, l2, y2, z2⟩, st2⟩ := X0.virtualBack hx (y := mn1) (z := mn1) hown (mw hZ hw 79 rfl) (mw hZ hw 80 rfl) (notFace_of_selects (args := #[]) (mw hZ hw 82 rfl)) (mw hZ hw 82 rfl) (mw hZ hw 81 rfl) (by decide) (backOf (W := 0) (rm15_0 l Z a0 hw [] a1 cz h0 n0 Z0 sC Fc_a1 (hCS)) hZ (wi hw 83 rfl) (wi hw 5 rfl) (by decide) (by decide)) q2a q2c (g := (mkF m 1 #[rv a1, iv p2, iv 0] [(.ref a1)])) rfl (by rw [hml]; rfl) (Steps.refl _) (argsL := []) (rest := []) (lenOf pd_6 rfl) rfl (by show 2 * 0 + _ ≤ _; exact Nat.le_of_eq rfl) (hb hby d35_1) (fun _ _ => ⟨rfl, e0, (Nat.zero_le _), (Nat.zero_le _)⟩)
  dsimp only [Pt.U, Pt.locs, Pt.cells, Pt.slots] at X2 l2 y2 z2 st2 hQ2
  subst l2 y2 z2
  obtain ⟨rfl, N2q, e2⟩ := hQ2
  have N2 := Fr.app N0 N2q
  have pre2 : PQ p e below m S0 T2 4 #[rv a1, iv p2, iv 0] [(.int 1)] := fun t kt => pre1 t (st2.trans kt)
  have pre3 : PQ p e below m S0 T2 8 #[rv a1, iv p2, iv 0] [(.ref a1)] := by
    intro t kt
    refine pre2 t ?_
    refine ow_ifNo X2.here hx hby d35_4 ((if0 _ _).trans (feq (by decide)).1) ?_
    refine ow_aloadN X2.here hx hby d35_7 rfl rfl ?_
    exact kt
  obtain ⟨T4, X4, e4, pre4⟩ := ow_getF pre3 X2 hx hZ hown (host := "") (Or.inl (wi hw 35 rfl)) Via.refl e2 Fv_a1 hby d35_8
  have pre5 : PQ p e below m S0 T4 14 #[rv a1, iv p2, iv 0] [(.ref a1), (.int 0), (.int p2), (.ref tb)] := by
    intro t kt
    refine pre4 t ?_
    refine ow_iloadN X4.here hx hby d35_11 rfl ?_
    refine ow_iloadN X4.here hx hby d35_12 rfl ?_
    refine ow_aloadN X4.here hx hby d35_13 rfl rfl ?_
    exact kt
  obtain ⟨cq6, kq6, q6a, q6b, q6c⟩ := isOf hZ e4 E_a1
  obtain ⟨_, _, ⟨T6, L6, k6, n6⟩, -, X6, ⟨Lc6, hQ6, l6, y6, z6⟩, st6⟩ := X4.virtualBack hx (y := mn0) (z := mn0) hown (mw hZ hw 161 rfl) (mw hZ hw 31 rfl) (notFace_of_selects (args := #[]) (mw hZ hw 33 rfl)) (mw hZ hw 33 rfl) (mw hZ hw 32 rfl) (by decide) (backOf (W := 3) (rm5_00 l Z a0 hw [] a1 tb kd [] cz h0 n0 Z0 E_a1 Fv_a1 Fc_a1 V_tb sC (hCS)) hZ (wi hw 34 rfl) (wi hw 5 rfl) (by decide) (by decide)) q6a q6c (g := (mkF m 14 #[rv a1, iv p2, iv 0] [(.ref a1), (.int 0), (.int p2), (.ref tb)])) rfl (by rw [hml]; rfl) (Steps.refl _) (argsL := []) (rest := [(.int 0), (.int p2), (.ref tb)]) (lenOf pd_13 rfl) rfl (by show 2 * 0 + _ ≤ _; exact Nat.le_of_eq rfl) (hb hby d35_14) (fun _ _ => ⟨rfl, e4, (Nat.zero_le _), (Nat.zero_le _)⟩)
  dsimp only [Pt.U, Pt.locs, Pt.cells, Pt.slots] at X6 l6 y6 z6 st6 hQ6
  subst l6 y6 z6
  obtain ⟨rfl, N6q, e6⟩ := hQ6
  have N6 := Fr.app N2 N6q
  have pre6 : PQ p e below m S0 T6 17 #[rv a1, iv p2, iv 0] [(.int 0), (.int 0), (.int p2), (.ref tb)] := fun t kt => pre5 t (st6.trans kt)
  obtain ⟨_, _, ⟨T7, L7, k7, n7⟩, -, X7, ⟨Lc7, hQ7, l7, y7, z7⟩, st7⟩ := Jvm.LawKit.callS X6 hx (y := mn18) hown (mw hZ hw 185 rfl) (mw hZ hw 186 rfl) (mw hZ hw 60 rfl) (mw hZ hw 187 rfl) (by decide) (backOf (W := 0) (rm43_0 l Z a0 hw [] tb p2 (0 : Int32) (0 : Int32) kd h0 n0 Z0 V_tb (rfl) (rfl)) hZ (wi hw 187 rfl) (wi hw 60 rfl) (by decide) (by decide)) (g := (mkF m 17 #[rv a1, iv p2, iv 0] [(.int 0), (.int 0), (.int p2), (.ref tb)])) rfl (by rw [hml]; rfl) (argsL := [(.ref tb), (.int p2), (.int 0), (.int 0)]) (rest := []) (lenOf pd_9 rfl) rfl (by show 2 * 0 + _ ≤ _; exact Nat.le_of_eq rfl) (hb hby d35_17) (fun _ _ => ⟨rfl, e6, (Nat.zero_le _), (Nat.zero_le _)⟩)
  dsimp only [Pt.U, Pt.locs, Pt.cells, Pt.slots] at X7 l7 y7 z7 st7 hQ7
  subst l7 y7 z7
  obtain ⟨rfl, N7q, e7⟩ := hQ7
  have N7 := Fr.app N6 N7q
  have pre7 : PQ p e below m S0 T7 20 #[rv a1, iv p2, iv 0] [(.int (own_j0 p2 ))] := fun t kt => pre6 t (st7 _ kt)
  have pre8 : PQ p e below m S0 T7 36 #[rv a1, iv p2, iv 0] [(.int (own_j0 p2 ))] := by
    intro t kt
    refine pre7 t ?_
    refine ow_goto X7.here hx hby d35_20 (pc' := 36) (by decide) (by decide) ?_
    exact kt
  obtain ⟨fs, hr, hu, hd, hW, hme⟩ := X7.leave (v := some (.int (own_j0 p2 ))) (fun h => by rw [Bd.returns] at h; cases h)
  refine ⟨_, _, pre8 _ ?_, hu, hd, _, _, rfl, ?_, ⟨_, rfl⟩, hW, hme.mono (by decide) (by decide)⟩
  · show SQ p e below m T7 36 #[rv a1, iv p2, iv 0] [(.int (own_j0 p2 ))] _
    exact retI X7 hx Bd.returns (hb hby d35_36) hr
  · show Qrm35_00 Z a1 p2 (0 : Int32) tb kd cz fm h0 n0 _ T7.heap _
    rw [e7]
    exact ⟨rfl, N7, rfl⟩
def Qrm35_01 (Z : State) (a1 : Addr) (p2 p3 : Int32) (tb : Addr) (kd : ClassId) (x0 cz : Int32) (fm : Value) (h0 : Heap) (n0 : Nat) (v : Option Value) (h : Heap) (L : List Loc) : Prop := v = some (.int (own_j1 p2 x0)) ∧ Fr n0 L ∧ h = h0

theorem rm35_01 (l : Launch) (Z : State) (a0 : Array Value) (hw : HW a0 Z) (ws : List Jvm.Cond) (a1 : Addr) (p2 p3 : Int32) (tb : Addr) (kd : ClassId) (x0 cz : Int32) (fm : Value) (h0 : Heap) (n0 : Nat) (Z0 : n0 ≤ h0.size) (E_a1 : exa0 Z h0 a1) (Fv_a1 : fld1 Z h0 a1 (.ref tb)) (Fc_a1 : fld0 Z h0 a1 (.int 0)) (V_tb : Arv Z h0 tb kd .byte (1 : Int32) [(.int x0)] (.int 0)) (sC : sta4 Z h0 (.int cz)) (sF : sta3 Z h0 fm) (sA : sta0 Z h0 (.int 1)) (sH : sta1 Z h0 (.int 0)) (sL : sta2 Z h0 (.int 8)) (hCS : ¬ (cz = (0 : Int32))) (hFM : fm.isRef = true) (hp3 : p3 = (0 : Int32)) (hch : p2 < (65536 : Int32)) :
    MF l Z h0 mn3 kb10 3 (some .int) ws ({ frames := 2, cells := 0, slots := 0, locals := 32 } : Room) #[(.ref a1), (.int p2), (.int p3)] (Qrm35_01 Z a1 p2 p3 tb kd x0 cz fm h0 n0) := by
  refine own_go "java/lang/String" rfl #[rv a1, iv p2, iv p3] (fun m => ef_35 m a1 p2 p3) (plainFor_of_name pn_4) ?_
  intro p e s m below meth c s₁ S0 Bd hx hby hml hown hZ X0 e0 pre0
  have N0 := Fr.nil n0
  subst hp3
  have pre1 : PQ p e below m S0 s₁ 1 #[rv a1, iv p2, iv 0] [(.ref a1)] := by
    intro t kt
    refine pre0 t ?_
    refine ow_aloadN X0.here hx hby d35_0 rfl rfl ?_
    exact kt
  obtain ⟨cq2, kq2, q2a, q2b, q2c⟩ := isOf hZ e0 E_a1
  obtain ⟨_, _, ⟨T2, L2, k2, n2⟩, -, X2, ⟨Lc2, hQ2, l2, y2, z2⟩, st2⟩ := X0.virtualBack hx (y := mn1) (z := mn1) hown (mw hZ hw 79 rfl) (mw hZ hw 80 rfl) (notFace_of_selects (args := #[]) (mw hZ hw 82 rfl)) (mw hZ hw 82 rfl) (mw hZ hw 81 rfl) (by decide) (backOf (W := 0) (rm15_0 l Z a0 hw [] a1 cz h0 n0 Z0 sC Fc_a1 (hCS)) hZ (wi hw 83 rfl) (wi hw 5 rfl) (by decide) (by decide)) q2a q2c (g := (mkF m 1 #[rv a1, iv p2, iv 0] [(.ref a1)])) rfl (by rw [hml]; rfl) (Steps.refl _) (argsL := []) (rest := []) (lenOf pd_6 rfl) rfl (by show 2 * 0 + _ ≤ _; exact Nat.le_of_eq rfl) (hb hby d35_1) (fun _ _ => ⟨rfl, e0, (Nat.zero_le _), (Nat.zero_le _)⟩)
  dsimp only [Pt.U, Pt.locs, Pt.cells, Pt.slots] at X2 l2 y2 z2 st2 hQ2
  subst l2 y2 z2
  obtain ⟨rfl, N2q, e2⟩ := hQ2
  have N2 := Fr.app N0 N2q
  have pre2 : PQ p e below m S0 T2 4 #[rv a1, iv p2, iv 0] [(.int 1)] := fun t kt => pre1 t (st2.trans kt)
  have pre3 : PQ p e below m S0 T2 8 #[rv a1, iv p2, iv 0] [(.ref a1)] := by
    intro t kt
    refine pre2 t ?_
    refine ow_ifNo X2.here hx hby d35_4 ((if0 _ _).trans (feq (by decide)).1) ?_
    refine ow_aloadN X2.here hx hby d35_7 rfl rfl ?_
    exact kt
  obtain ⟨T4, X4, e4, pre4⟩ := ow_getF pre3 X2 hx hZ hown (host := "") (Or.inl (wi hw 35 rfl)) Via.refl e2 Fv_a1 hby d35_8
  have pre5 : PQ p e below m S0 T4 14 #[rv a1, iv p2, iv 0] [(.ref a1), (.int 0), (.int p2), (.ref tb)] := by
    intro t kt
    refine pre4 t ?_
    refine ow_iloadN X4.here hx hby d35_11 rfl ?_
    refine ow_iloadN X4.here hx hby d35_12 rfl ?_
    refine ow_aloadN X4.here hx hby d35_13 rfl rfl ?_
    exact kt
  obtain ⟨cq6, kq6, q6a, q6b, q6c⟩ := isOf hZ e4 E_a1
  obtain ⟨_, _, ⟨T6, L6, k6, n6⟩, -, X6, ⟨Lc6, hQ6, l6, y6, z6⟩, st6⟩ := X4.virtualBack hx (y := mn0) (z := mn0) hown (mw hZ hw 161 rfl) (mw hZ hw 31 rfl) (notFace_of_selects (args := #[]) (mw hZ hw 33 rfl)) (mw hZ hw 33 rfl) (mw hZ hw 32 rfl) (by decide) (backOf (W := 3) (rm5_01 l Z a0 hw [] a1 tb kd [(.int x0)] cz h0 n0 Z0 E_a1 Fv_a1 Fc_a1 V_tb sC (hCS)) hZ (wi hw 34 rfl) (wi hw 5 rfl) (by decide) (by decide)) q6a q6c (g := (mkF m 14 #[rv a1, iv p2, iv 0] [(.ref a1), (.int 0), (.int p2), (.ref tb)])) rfl (by rw [hml]; rfl) (Steps.refl _) (argsL := []) (rest := [(.int 0), (.int p2), (.ref tb)]) (lenOf pd_13 rfl) rfl (by show 2 * 0 + _ ≤ _; exact Nat.le_of_eq rfl) (hb hby d35_14) (fun _ _ => ⟨rfl, e4, (Nat.zero_le _), (Nat.zero_le _)⟩)
  dsimp only [Pt.U, Pt.locs, Pt.cells, Pt.slots] at X6 l6 y6 z6 st6 hQ6
  subst l6 y6 z6
  obtain ⟨rfl, N6q, e6⟩ := hQ6
  have N6 := Fr.app N2 N6q
  have pre6 : PQ p e below m S0 T6 17 #[rv a1, iv p2, iv 0] [(.int 1), (.int 0), (.int p2), (.ref tb)] := fun t kt => pre5 t (st6.trans kt)
  obtain ⟨_, _, ⟨T7, L7, k7, n7⟩, -, X7, ⟨Lc7, hQ7, l7, y7, z7⟩, st7⟩ := Jvm.LawKit.callS X6 hx (y := mn18) hown (mw hZ hw 185 rfl) (mw hZ hw 186 rfl) (mw hZ hw 60 rfl) (mw hZ hw 187 rfl) (by decide) (backOf (W := 0) (rm43_1 l Z a0 hw [] tb p2 (0 : Int32) (1 : Int32) kd x0 h0 n0 Z0 V_tb (rfl) (rfl)) hZ (wi hw 187 rfl) (wi hw 60 rfl) (by decide) (by decide)) (g := (mkF m 17 #[rv a1, iv p2, iv 0] [(.int 1), (.int 0), (.int p2), (.ref tb)])) rfl (by rw [hml]; rfl) (argsL := [(.ref tb), (.int p2), (.int 0), (.int 1)]) (rest := []) (lenOf pd_9 rfl) rfl (by show 2 * 0 + _ ≤ _; exact Nat.le_of_eq rfl) (hb hby d35_17) (fun _ _ => ⟨rfl, e6, (Nat.zero_le _), (Nat.zero_le _)⟩)
  dsimp only [Pt.U, Pt.locs, Pt.cells, Pt.slots] at X7 l7 y7 z7 st7 hQ7
  subst l7 y7 z7
  obtain ⟨rfl, N7q, e7⟩ := hQ7
  have N7 := Fr.app N6 N7q
  have pre7 : PQ p e below m S0 T7 20 #[rv a1, iv p2, iv 0] [(.int (own_j1 p2 x0))] := fun t kt => pre6 t (st7 _ kt)
  have pre8 : PQ p e below m S0 T7 36 #[rv a1, iv p2, iv 0] [(.int (own_j1 p2 x0))] := by
    intro t kt
    refine pre7 t ?_
    refine ow_goto X7.here hx hby d35_20 (pc' := 36) (by decide) (by decide) ?_
    exact kt
  obtain ⟨fs, hr, hu, hd, hW, hme⟩ := X7.leave (v := some (.int (own_j1 p2 x0))) (fun h => by rw [Bd.returns] at h; cases h)
  refine ⟨_, _, pre8 _ ?_, hu, hd, _, _, rfl, ?_, ⟨_, rfl⟩, hW, hme.mono (by decide) (by decide)⟩
  · show SQ p e below m T7 36 #[rv a1, iv p2, iv 0] [(.int (own_j1 p2 x0))] _
    exact retI X7 hx Bd.returns (hb hby d35_36) hr
  · show Qrm35_01 Z a1 p2 (0 : Int32) tb kd x0 cz fm h0 n0 _ T7.heap _
    rw [e7]
    exact ⟨rfl, N7, rfl⟩
def Qrm35_02 (Z : State) (a1 : Addr) (p2 p3 : Int32) (tb : Addr) (kd : ClassId) (x0 x1 cz : Int32) (fm : Value) (h0 : Heap) (n0 : Nat) (v : Option Value) (h : Heap) (L : List Loc) : Prop := v = some (.int (own_j2 p2 x0 x1)) ∧ Fr n0 L ∧ h = h0

theorem rm35_02 (l : Launch) (Z : State) (a0 : Array Value) (hw : HW a0 Z) (ws : List Jvm.Cond) (a1 : Addr) (p2 p3 : Int32) (tb : Addr) (kd : ClassId) (x0 x1 cz : Int32) (fm : Value) (h0 : Heap) (n0 : Nat) (Z0 : n0 ≤ h0.size) (E_a1 : exa0 Z h0 a1) (Fv_a1 : fld1 Z h0 a1 (.ref tb)) (Fc_a1 : fld0 Z h0 a1 (.int 0)) (V_tb : Arv Z h0 tb kd .byte (2 : Int32) [(.int x0), (.int x1)] (.int 0)) (sC : sta4 Z h0 (.int cz)) (sF : sta3 Z h0 fm) (sA : sta0 Z h0 (.int 1)) (sH : sta1 Z h0 (.int 0)) (sL : sta2 Z h0 (.int 8)) (hCS : ¬ (cz = (0 : Int32))) (hFM : fm.isRef = true) (hp3 : p3 = (0 : Int32)) (hch : p2 < (65536 : Int32)) :
    MF l Z h0 mn3 kb10 3 (some .int) ws ({ frames := 2, cells := 0, slots := 0, locals := 32 } : Room) #[(.ref a1), (.int p2), (.int p3)] (Qrm35_02 Z a1 p2 p3 tb kd x0 x1 cz fm h0 n0) := by
  refine own_go "java/lang/String" rfl #[rv a1, iv p2, iv p3] (fun m => ef_35 m a1 p2 p3) (plainFor_of_name pn_4) ?_
  intro p e s m below meth c s₁ S0 Bd hx hby hml hown hZ X0 e0 pre0
  have N0 := Fr.nil n0
  subst hp3
  have pre1 : PQ p e below m S0 s₁ 1 #[rv a1, iv p2, iv 0] [(.ref a1)] := by
    intro t kt
    refine pre0 t ?_
    refine ow_aloadN X0.here hx hby d35_0 rfl rfl ?_
    exact kt
  obtain ⟨cq2, kq2, q2a, q2b, q2c⟩ := isOf hZ e0 E_a1
  obtain ⟨_, _, ⟨T2, L2, k2, n2⟩, -, X2, ⟨Lc2, hQ2, l2, y2, z2⟩, st2⟩ := X0.virtualBack hx (y := mn1) (z := mn1) hown (mw hZ hw 79 rfl) (mw hZ hw 80 rfl) (notFace_of_selects (args := #[]) (mw hZ hw 82 rfl)) (mw hZ hw 82 rfl) (mw hZ hw 81 rfl) (by decide) (backOf (W := 0) (rm15_0 l Z a0 hw [] a1 cz h0 n0 Z0 sC Fc_a1 (hCS)) hZ (wi hw 83 rfl) (wi hw 5 rfl) (by decide) (by decide)) q2a q2c (g := (mkF m 1 #[rv a1, iv p2, iv 0] [(.ref a1)])) rfl (by rw [hml]; rfl) (Steps.refl _) (argsL := []) (rest := []) (lenOf pd_6 rfl) rfl (by show 2 * 0 + _ ≤ _; exact Nat.le_of_eq rfl) (hb hby d35_1) (fun _ _ => ⟨rfl, e0, (Nat.zero_le _), (Nat.zero_le _)⟩)
  dsimp only [Pt.U, Pt.locs, Pt.cells, Pt.slots] at X2 l2 y2 z2 st2 hQ2
  subst l2 y2 z2
  obtain ⟨rfl, N2q, e2⟩ := hQ2
  have N2 := Fr.app N0 N2q
  have pre2 : PQ p e below m S0 T2 4 #[rv a1, iv p2, iv 0] [(.int 1)] := fun t kt => pre1 t (st2.trans kt)
  have pre3 : PQ p e below m S0 T2 8 #[rv a1, iv p2, iv 0] [(.ref a1)] := by
    intro t kt
    refine pre2 t ?_
    refine ow_ifNo X2.here hx hby d35_4 ((if0 _ _).trans (feq (by decide)).1) ?_
    refine ow_aloadN X2.here hx hby d35_7 rfl rfl ?_
    exact kt
  obtain ⟨T4, X4, e4, pre4⟩ := ow_getF pre3 X2 hx hZ hown (host := "") (Or.inl (wi hw 35 rfl)) Via.refl e2 Fv_a1 hby d35_8
  have pre5 : PQ p e below m S0 T4 14 #[rv a1, iv p2, iv 0] [(.ref a1), (.int 0), (.int p2), (.ref tb)] := by
    intro t kt
    refine pre4 t ?_
    refine ow_iloadN X4.here hx hby d35_11 rfl ?_
    refine ow_iloadN X4.here hx hby d35_12 rfl ?_
    refine ow_aloadN X4.here hx hby d35_13 rfl rfl ?_
    exact kt
  obtain ⟨cq6, kq6, q6a, q6b, q6c⟩ := isOf hZ e4 E_a1
  obtain ⟨_, _, ⟨T6, L6, k6, n6⟩, -, X6, ⟨Lc6, hQ6, l6, y6, z6⟩, st6⟩ := X4.virtualBack hx (y := mn0) (z := mn0) hown (mw hZ hw 161 rfl) (mw hZ hw 31 rfl) (notFace_of_selects (args := #[]) (mw hZ hw 33 rfl)) (mw hZ hw 33 rfl) (mw hZ hw 32 rfl) (by decide) (backOf (W := 3) (rm5_02 l Z a0 hw [] a1 tb kd [(.int x0), (.int x1)] cz h0 n0 Z0 E_a1 Fv_a1 Fc_a1 V_tb sC (hCS)) hZ (wi hw 34 rfl) (wi hw 5 rfl) (by decide) (by decide)) q6a q6c (g := (mkF m 14 #[rv a1, iv p2, iv 0] [(.ref a1), (.int 0), (.int p2), (.ref tb)])) rfl (by rw [hml]; rfl) (Steps.refl _) (argsL := []) (rest := [(.int 0), (.int p2), (.ref tb)]) (lenOf pd_13 rfl) rfl (by show 2 * 0 + _ ≤ _; exact Nat.le_of_eq rfl) (hb hby d35_14) (fun _ _ => ⟨rfl, e4, (Nat.zero_le _), (Nat.zero_le _)⟩)
  dsimp only [Pt.U, Pt.locs, Pt.cells, Pt.slots] at X6 l6 y6 z6 st6 hQ6
  subst l6 y6 z6
  obtain ⟨rfl, N6q, e6⟩ := hQ6
  have N6 := Fr.app N2 N6q
  have pre6 : PQ p e below m S0 T6 17 #[rv a1, iv p2, iv 0] [(.int 2), (.int 0), (.int p2), (.ref tb)] := fun t kt => pre5 t (st6.trans kt)
  obtain ⟨_, _, ⟨T7, L7, k7, n7⟩, -, X7, ⟨Lc7, hQ7, l7, y7, z7⟩, st7⟩ := Jvm.LawKit.callS X6 hx (y := mn18) hown (mw hZ hw 185 rfl) (mw hZ hw 186 rfl) (mw hZ hw 60 rfl) (mw hZ hw 187 rfl) (by decide) (backOf (W := 0) (rm43_2 l Z a0 hw [] tb p2 (0 : Int32) (2 : Int32) kd x0 x1 h0 n0 Z0 V_tb (rfl) (rfl)) hZ (wi hw 187 rfl) (wi hw 60 rfl) (by decide) (by decide)) (g := (mkF m 17 #[rv a1, iv p2, iv 0] [(.int 2), (.int 0), (.int p2), (.ref tb)])) rfl (by rw [hml]; rfl) (argsL := [(.ref tb), (.int p2), (.int 0), (.int 2)]) (rest := []) (lenOf pd_9 rfl) rfl (by show 2 * 0 + _ ≤ _; exact Nat.le_of_eq rfl) (hb hby d35_17) (fun _ _ => ⟨rfl, e6, (Nat.zero_le _), (Nat.zero_le _)⟩)
  dsimp only [Pt.U, Pt.locs, Pt.cells, Pt.slots] at X7 l7 y7 z7 st7 hQ7
  subst l7 y7 z7
  obtain ⟨rfl, N7q, e7⟩ := hQ7
  have N7 := Fr.app N6 N7q
  have pre7 : PQ p e below m S0 T7 20 #[rv a1, iv p2, iv 0] [(.int (own_j2 p2 x0 x1))] := fun t kt => pre6 t (st7 _ kt)
  have pre8 : PQ p e below m S0 T7 36 #[rv a1, iv p2, iv 0] [(.int (own_j2 p2 x0 x1))] := by
    intro t kt
    refine pre7 t ?_
    refine ow_goto X7.here hx hby d35_20 (pc' := 36) (by decide) (by decide) ?_
    exact kt
  obtain ⟨fs, hr, hu, hd, hW, hme⟩ := X7.leave (v := some (.int (own_j2 p2 x0 x1))) (fun h => by rw [Bd.returns] at h; cases h)
  refine ⟨_, _, pre8 _ ?_, hu, hd, _, _, rfl, ?_, ⟨_, rfl⟩, hW, hme.mono (by decide) (by decide)⟩
  · show SQ p e below m T7 36 #[rv a1, iv p2, iv 0] [(.int (own_j2 p2 x0 x1))] _
    exact retI X7 hx Bd.returns (hb hby d35_36) hr
  · show Qrm35_02 Z a1 p2 (0 : Int32) tb kd x0 x1 cz fm h0 n0 _ T7.heap _
    rw [e7]
    exact ⟨rfl, N7, rfl⟩
def Qrm35_11 (Z : State) (a1 : Addr) (p2 p3 : Int32) (tb : Addr) (kd : ClassId) (x0 x1 cz : Int32) (fm : Value) (h0 : Heap) (n0 : Nat) (v : Option Value) (h : Heap) (L : List Loc) : Prop := v = some (.int (own_u1 p2 x0 x1)) ∧ Fr n0 L ∧ h = h0
theorem d35_23 : decode kb10 23 = .ok (.aload_n 0, 1) := by decide +kernel
theorem d35_24 : decode kb10 24 = .ok (.getfield 9, 3) := by decide +kernel
theorem d35_27 : decode kb10 27 = .ok (.iload_n 1, 1) := by decide +kernel
theorem d35_28 : decode kb10 28 = .ok (.iload_n 2, 1) := by decide +kernel
theorem d35_29 : decode kb10 29 = .ok (.aload_n 0, 1) := by decide +kernel
theorem d35_30 : decode kb10 30 = .ok (.invokevirtual 505, 3) := by decide +kernel
theorem d35_33 : decode kb10 33 = .ok (.invokestatic 640, 3) := by decide +kernel

theorem rm35_11 (l : Launch) (Z : State) (a0 : Array Value) (hw : HW a0 Z) (ws : List Jvm.Cond) (a1 : Addr) (p2 p3 : Int32) (tb : Addr) (kd : ClassId) (x0 x1 cz : Int32) (fm : Value) (h0 : Heap) (n0 : Nat) (Z0 : n0 ≤ h0.size) (E_a1 : exa0 Z h0 a1) (Fv_a1 : fld1 Z h0 a1 (.ref tb)) (Fc_a1 : fld0 Z h0 a1 (.int 1)) (V_tb : Arv Z h0 tb kd .byte (2 : Int32) [(.int x0), (.int x1)] (.int 0)) (sC : sta4 Z h0 (.int cz)) (sF : sta3 Z h0 fm) (sA : sta0 Z h0 (.int 1)) (sH : sta1 Z h0 (.int 0)) (sL : sta2 Z h0 (.int 8)) (hCS : ¬ (cz = (0 : Int32))) (hFM : fm.isRef = true) (hp3 : p3 = (0 : Int32)) (hch : p2 < (65536 : Int32)) :
    MF l Z h0 mn3 kb10 3 (some .int) ws ({ frames := 5, cells := 0, slots := 0, locals := 73 } : Room) #[(.ref a1), (.int p2), (.int p3)] (Qrm35_11 Z a1 p2 p3 tb kd x0 x1 cz fm h0 n0) := by
  refine own_go "java/lang/String" rfl #[rv a1, iv p2, iv p3] (fun m => ef_35 m a1 p2 p3) (plainFor_of_name pn_4) ?_
  intro p e s m below meth c s₁ S0 Bd hx hby hml hown hZ X0 e0 pre0
  have N0 := Fr.nil n0
  subst hp3
  have pre1 : PQ p e below m S0 s₁ 1 #[rv a1, iv p2, iv 0] [(.ref a1)] := by
    intro t kt
    refine pre0 t ?_
    refine ow_aloadN X0.here hx hby d35_0 rfl rfl ?_
    exact kt
  obtain ⟨cq2, kq2, q2a, q2b, q2c⟩ := isOf hZ e0 E_a1
  obtain ⟨_, _, ⟨T2, L2, k2, n2⟩, -, X2, ⟨Lc2, hQ2, l2, y2, z2⟩, st2⟩ := X0.virtualBack hx (y := mn1) (z := mn1) hown (mw hZ hw 79 rfl) (mw hZ hw 80 rfl) (notFace_of_selects (args := #[]) (mw hZ hw 82 rfl)) (mw hZ hw 82 rfl) (mw hZ hw 81 rfl) (by decide) (backOf (W := 0) (rm15_1 l Z a0 hw [] a1 cz h0 n0 Z0 sC Fc_a1 (hCS)) hZ (wi hw 83 rfl) (wi hw 5 rfl) (by decide) (by decide)) q2a q2c (g := (mkF m 1 #[rv a1, iv p2, iv 0] [(.ref a1)])) rfl (by rw [hml]; rfl) (Steps.refl _) (argsL := []) (rest := []) (lenOf pd_6 rfl) rfl (by show 2 * 0 + _ ≤ _; exact Nat.le_of_eq rfl) (hb hby d35_1) (fun _ _ => ⟨rfl, e0, (Nat.zero_le _), (Nat.zero_le _)⟩)
  dsimp only [Pt.U, Pt.locs, Pt.cells, Pt.slots] at X2 l2 y2 z2 st2 hQ2
  subst l2 y2 z2
  obtain ⟨rfl, N2q, e2⟩ := hQ2
  have N2 := Fr.app N0 N2q
  have pre2 : PQ p e below m S0 T2 4 #[rv a1, iv p2, iv 0] [(.int 0)] := fun t kt => pre1 t (st2.trans kt)
  have pre3 : PQ p e below m S0 T2 24 #[rv a1, iv p2, iv 0] [(.ref a1)] := by
    intro t kt
    refine pre2 t ?_
    refine ow_ifYes X2.here hx hby d35_4 ((if0 _ _).trans (teq (by decide)).1) (pc' := 23) (by decide) (by decide) ?_
    refine ow_aloadN X2.here hx hby d35_23 rfl rfl ?_
    exact kt
  obtain ⟨T4, X4, e4, pre4⟩ := ow_getF pre3 X2 hx hZ hown (host := "") (Or.inl (wi hw 35 rfl)) Via.refl e2 Fv_a1 hby d35_24
  have pre5 : PQ p e below m S0 T4 30 #[rv a1, iv p2, iv 0] [(.ref a1), (.int 0), (.int p2), (.ref tb)] := by
    intro t kt
    refine pre4 t ?_
    refine ow_iloadN X4.here hx hby d35_27 rfl ?_
    refine ow_iloadN X4.here hx hby d35_28 rfl ?_
    refine ow_aloadN X4.here hx hby d35_29 rfl rfl ?_
    exact kt
  obtain ⟨cq6, kq6, q6a, q6b, q6c⟩ := isOf hZ e4 E_a1
  obtain ⟨_, _, ⟨T6, L6, k6, n6⟩, -, X6, ⟨Lc6, hQ6, l6, y6, z6⟩, st6⟩ := X4.virtualBack hx (y := mn0) (z := mn0) hown (mw hZ hw 161 rfl) (mw hZ hw 31 rfl) (notFace_of_selects (args := #[]) (mw hZ hw 33 rfl)) (mw hZ hw 33 rfl) (mw hZ hw 32 rfl) (by decide) (backOf (W := 3) (rm5_11 l Z a0 hw [] a1 tb kd [(.int x0), (.int x1)] cz h0 n0 Z0 E_a1 Fv_a1 Fc_a1 V_tb sC (hCS)) hZ (wi hw 34 rfl) (wi hw 5 rfl) (by decide) (by decide)) q6a q6c (g := (mkF m 30 #[rv a1, iv p2, iv 0] [(.ref a1), (.int 0), (.int p2), (.ref tb)])) rfl (by rw [hml]; rfl) (Steps.refl _) (argsL := []) (rest := [(.int 0), (.int p2), (.ref tb)]) (lenOf pd_13 rfl) rfl (by show 2 * 0 + _ ≤ _; exact Nat.le_of_eq rfl) (hb hby d35_30) (fun _ _ => ⟨rfl, e4, (Nat.zero_le _), (Nat.zero_le _)⟩)
  dsimp only [Pt.U, Pt.locs, Pt.cells, Pt.slots] at X6 l6 y6 z6 st6 hQ6
  subst l6 y6 z6
  obtain ⟨rfl, N6q, e6⟩ := hQ6
  have N6 := Fr.app N2 N6q
  have pre6 : PQ p e below m S0 T6 33 #[rv a1, iv p2, iv 0] [(.int 1), (.int 0), (.int p2), (.ref tb)] := fun t kt => pre5 t (st6.trans kt)
  obtain ⟨_, _, ⟨T7, L7, k7, n7⟩, -, X7, ⟨Lc7, hQ7, l7, y7, z7⟩, st7⟩ := Jvm.LawKit.callS X6 hx (y := mn33) hown (mw hZ hw 162 rfl) (mw hZ hw 163 rfl) (mw hZ hw 114 rfl) (mw hZ hw 164 rfl) (by decide) (backOf (W := 0) (rm36_1 l Z a0 hw [] tb p2 (0 : Int32) (1 : Int32) kd x0 x1 fm h0 n0 Z0 V_tb sF sA sH sL (hFM) (rfl) (rfl) (hch)) hZ (wi hw 164 rfl) (wi hw 114 rfl) (by decide) (by decide)) (g := (mkF m 33 #[rv a1, iv p2, iv 0] [(.int 1), (.int 0), (.int p2), (.ref tb)])) rfl (by rw [hml]; rfl) (argsL := [(.ref tb), (.int p2), (.int 0), (.int 1)]) (rest := []) (lenOf pd_9 rfl) rfl (by show 2 * 0 + _ ≤ _; exact Nat.le_of_eq rfl) (hb hby d35_33) (fun _ _ => ⟨rfl, e6, (Nat.zero_le _), (Nat.zero_le _)⟩)
  dsimp only [Pt.U, Pt.locs, Pt.cells, Pt.slots] at X7 l7 y7 z7 st7 hQ7
  subst l7 y7 z7
  obtain ⟨rfl, N7q, e7⟩ := hQ7
  have N7 := Fr.app N6 N7q
  have pre7 : PQ p e below m S0 T7 36 #[rv a1, iv p2, iv 0] [(.int (own_u1 p2 x0 x1))] := fun t kt => pre6 t (st7 _ kt)
  obtain ⟨fs, hr, hu, hd, hW, hme⟩ := X7.leave (v := some (.int (own_u1 p2 x0 x1))) (fun h => by rw [Bd.returns] at h; cases h)
  refine ⟨_, _, pre7 _ ?_, hu, hd, _, _, rfl, ?_, ⟨_, rfl⟩, hW, hme.mono (by decide) (by decide)⟩
  · show SQ p e below m T7 36 #[rv a1, iv p2, iv 0] [(.int (own_u1 p2 x0 x1))] _
    exact retI X7 hx Bd.returns (hb hby d35_36) hr
  · show Qrm35_11 Z a1 p2 (0 : Int32) tb kd x0 x1 cz fm h0 n0 _ T7.heap _
    rw [e7]
    exact ⟨rfl, N7, rfl⟩
def Qrm35_12 (Z : State) (a1 : Addr) (p2 p3 : Int32) (tb : Addr) (kd : ClassId) (x0 x1 : Int32) (x2 x3 cz : Int32) (fm : Value) (h0 : Heap) (n0 : Nat) (v : Option Value) (h : Heap) (L : List Loc) : Prop := v = some (.int (own_u2 p2 x0 x1 x2 x3)) ∧ Fr n0 L ∧ h = h0

theorem rm35_12 (l : Launch) (Z : State) (a0 : Array Value) (hw : HW a0 Z) (ws : List Jvm.Cond) (a1 : Addr) (p2 p3 : Int32) (tb : Addr) (kd : ClassId) (x0 x1 : Int32) (x2 x3 cz : Int32) (fm : Value) (h0 : Heap) (n0 : Nat) (Z0 : n0 ≤ h0.size) (E_a1 : exa0 Z h0 a1) (Fv_a1 : fld1 Z h0 a1 (.ref tb)) (Fc_a1 : fld0 Z h0 a1 (.int 1)) (V_tb : Arv Z h0 tb kd .byte (4 : Int32) [(.int x0), (.int x1), (.int x2), (.int x3)] (.int 0)) (sC : sta4 Z h0 (.int cz)) (sF : sta3 Z h0 fm) (sA : sta0 Z h0 (.int 1)) (sH : sta1 Z h0 (.int 0)) (sL : sta2 Z h0 (.int 8)) (hCS : ¬ (cz = (0 : Int32))) (hFM : fm.isRef = true) (hp3 : p3 = (0 : Int32)) (hch : p2 < (65536 : Int32)) :
    MF l Z h0 mn3 kb10 3 (some .int) ws ({ frames := 5, cells := 0, slots := 0, locals := 73 } : Room) #[(.ref a1), (.int p2), (.int p3)] (Qrm35_12 Z a1 p2 p3 tb kd x0 x1 x2 x3 cz fm h0 n0) := by
  refine own_go "java/lang/String" rfl #[rv a1, iv p2, iv p3] (fun m => ef_35 m a1 p2 p3) (plainFor_of_name pn_4) ?_
  intro p e s m below meth c s₁ S0 Bd hx hby hml hown hZ X0 e0 pre0
  have N0 := Fr.nil n0
  subst hp3
  have pre1 : PQ p e below m S0 s₁ 1 #[rv a1, iv p2, iv 0] [(.ref a1)] := by
    intro t kt
    refine pre0 t ?_
    refine ow_aloadN X0.here hx hby d35_0 rfl rfl ?_
    exact kt
  obtain ⟨cq2, kq2, q2a, q2b, q2c⟩ := isOf hZ e0 E_a1
  obtain ⟨_, _, ⟨T2, L2, k2, n2⟩, -, X2, ⟨Lc2, hQ2, l2, y2, z2⟩, st2⟩ := X0.virtualBack hx (y := mn1) (z := mn1) hown (mw hZ hw 79 rfl) (mw hZ hw 80 rfl) (notFace_of_selects (args := #[]) (mw hZ hw 82 rfl)) (mw hZ hw 82 rfl) (mw hZ hw 81 rfl) (by decide) (backOf (W := 0) (rm15_1 l Z a0 hw [] a1 cz h0 n0 Z0 sC Fc_a1 (hCS)) hZ (wi hw 83 rfl) (wi hw 5 rfl) (by decide) (by decide)) q2a q2c (g := (mkF m 1 #[rv a1, iv p2, iv 0] [(.ref a1)])) rfl (by rw [hml]; rfl) (Steps.refl _) (argsL := []) (rest := []) (lenOf pd_6 rfl) rfl (by show 2 * 0 + _ ≤ _; exact Nat.le_of_eq rfl) (hb hby d35_1) (fun _ _ => ⟨rfl, e0, (Nat.zero_le _), (Nat.zero_le _)⟩)
  dsimp only [Pt.U, Pt.locs, Pt.cells, Pt.slots] at X2 l2 y2 z2 st2 hQ2
  subst l2 y2 z2
  obtain ⟨rfl, N2q, e2⟩ := hQ2
  have N2 := Fr.app N0 N2q
  have pre2 : PQ p e below m S0 T2 4 #[rv a1, iv p2, iv 0] [(.int 0)] := fun t kt => pre1 t (st2.trans kt)
  have pre3 : PQ p e below m S0 T2 24 #[rv a1, iv p2, iv 0] [(.ref a1)] := by
    intro t kt
    refine pre2 t ?_
    refine ow_ifYes X2.here hx hby d35_4 ((if0 _ _).trans (teq (by decide)).1) (pc' := 23) (by decide) (by decide) ?_
    refine ow_aloadN X2.here hx hby d35_23 rfl rfl ?_
    exact kt
  obtain ⟨T4, X4, e4, pre4⟩ := ow_getF pre3 X2 hx hZ hown (host := "") (Or.inl (wi hw 35 rfl)) Via.refl e2 Fv_a1 hby d35_24
  have pre5 : PQ p e below m S0 T4 30 #[rv a1, iv p2, iv 0] [(.ref a1), (.int 0), (.int p2), (.ref tb)] := by
    intro t kt
    refine pre4 t ?_
    refine ow_iloadN X4.here hx hby d35_27 rfl ?_
    refine ow_iloadN X4.here hx hby d35_28 rfl ?_
    refine ow_aloadN X4.here hx hby d35_29 rfl rfl ?_
    exact kt
  obtain ⟨cq6, kq6, q6a, q6b, q6c⟩ := isOf hZ e4 E_a1
  obtain ⟨_, _, ⟨T6, L6, k6, n6⟩, -, X6, ⟨Lc6, hQ6, l6, y6, z6⟩, st6⟩ := X4.virtualBack hx (y := mn0) (z := mn0) hown (mw hZ hw 161 rfl) (mw hZ hw 31 rfl) (notFace_of_selects (args := #[]) (mw hZ hw 33 rfl)) (mw hZ hw 33 rfl) (mw hZ hw 32 rfl) (by decide) (backOf (W := 3) (rm5_12 l Z a0 hw [] a1 tb kd [(.int x0), (.int x1), (.int x2), (.int x3)] cz h0 n0 Z0 E_a1 Fv_a1 Fc_a1 V_tb sC (hCS)) hZ (wi hw 34 rfl) (wi hw 5 rfl) (by decide) (by decide)) q6a q6c (g := (mkF m 30 #[rv a1, iv p2, iv 0] [(.ref a1), (.int 0), (.int p2), (.ref tb)])) rfl (by rw [hml]; rfl) (Steps.refl _) (argsL := []) (rest := [(.int 0), (.int p2), (.ref tb)]) (lenOf pd_13 rfl) rfl (by show 2 * 0 + _ ≤ _; exact Nat.le_of_eq rfl) (hb hby d35_30) (fun _ _ => ⟨rfl, e4, (Nat.zero_le _), (Nat.zero_le _)⟩)
  dsimp only [Pt.U, Pt.locs, Pt.cells, Pt.slots] at X6 l6 y6 z6 st6 hQ6
  subst l6 y6 z6
  obtain ⟨rfl, N6q, e6⟩ := hQ6
  have N6 := Fr.app N2 N6q
  have pre6 : PQ p e below m S0 T6 33 #[rv a1, iv p2, iv 0] [(.int 2), (.int 0), (.int p2), (.ref tb)] := fun t kt => pre5 t (st6.trans kt)
  obtain ⟨_, _, ⟨T7, L7, k7, n7⟩, -, X7, ⟨Lc7, hQ7, l7, y7, z7⟩, st7⟩ := Jvm.LawKit.callS X6 hx (y := mn33) hown (mw hZ hw 162 rfl) (mw hZ hw 163 rfl) (mw hZ hw 114 rfl) (mw hZ hw 164 rfl) (by decide) (backOf (W := 0) (rm36_2 l Z a0 hw [] tb p2 (0 : Int32) (2 : Int32) kd x0 x1 x2 x3 fm h0 n0 Z0 V_tb sF sA sH sL (hFM) (rfl) (rfl) (hch)) hZ (wi hw 164 rfl) (wi hw 114 rfl) (by decide) (by decide)) (g := (mkF m 33 #[rv a1, iv p2, iv 0] [(.int 2), (.int 0), (.int p2), (.ref tb)])) rfl (by rw [hml]; rfl) (argsL := [(.ref tb), (.int p2), (.int 0), (.int 2)]) (rest := []) (lenOf pd_9 rfl) rfl (by show 2 * 0 + _ ≤ _; exact Nat.le_of_eq rfl) (hb hby d35_33) (fun _ _ => ⟨rfl, e6, (Nat.zero_le _), (Nat.zero_le _)⟩)
  dsimp only [Pt.U, Pt.locs, Pt.cells, Pt.slots] at X7 l7 y7 z7 st7 hQ7
  subst l7 y7 z7
  obtain ⟨rfl, N7q, e7⟩ := hQ7
  have N7 := Fr.app N6 N7q
  have pre7 : PQ p e below m S0 T7 36 #[rv a1, iv p2, iv 0] [(.int (own_u2 p2 x0 x1 x2 x3))] := fun t kt => pre6 t (st7 _ kt)
  obtain ⟨fs, hr, hu, hd, hW, hme⟩ := X7.leave (v := some (.int (own_u2 p2 x0 x1 x2 x3))) (fun h => by rw [Bd.returns] at h; cases h)
  refine ⟨_, _, pre7 _ ?_, hu, hd, _, _, rfl, ?_, ⟨_, rfl⟩, hW, hme.mono (by decide) (by decide)⟩
  · show SQ p e below m T7 36 #[rv a1, iv p2, iv 0] [(.int (own_u2 p2 x0 x1 x2 x3))] _
    exact retI X7 hx Bd.returns (hb hby d35_36) hr
  · show Qrm35_12 Z a1 p2 (0 : Int32) tb kd x0 x1 x2 x3 cz fm h0 n0 _ T7.heap _
    rw [e7]
    exact ⟨rfl, N7, rfl⟩
def Qrm34_00 (Z : State) (a1 : Addr) (p2 : Int32) (tb : Addr) (kd : ClassId) (cz : Int32) (fm : Value) (h0 : Heap) (n0 : Nat) (v : Option Value) (h : Heap) (L : List Loc) : Prop := v = some (.int (own_j0 p2 )) ∧ Fr n0 L ∧ h = h0
theorem d34_0 : decode kb24 0 = .ok (.aload_n 0, 1) := by decide +kernel
theorem d34_1 : decode kb24 1 = .ok (.iload_n 1, 1) := by decide +kernel
theorem d34_2 : decode kb24 2 = .ok (.iconst 0, 1) := by decide +kernel
theorem d34_3 : decode kb24 3 = .ok (.invokevirtual 633, 3) := by decide +kernel
theorem d34_6 : decode kb24 6 = .ok (.ireturn, 1) := by decide +kernel
theorem ef_34 (m : MethodId) (x0 : Addr) (x1 : Int32) : entryFrame m #[(.ref x0), (.int x1)] 2 = mkF m 0 #[rv x0, iv x1] [] := by first | (simp [entryFrame, mkF, argsToLocals, Value.category]; done) | rfl
theorem rm34_00 (l : Launch) (Z : State) (a0 : Array Value) (hw : HW a0 Z) (ws : List Jvm.Cond) (a1 : Addr) (p2 : Int32) (tb : Addr) (kd : ClassId) (cz : Int32) (fm : Value) (h0 : Heap) (n0 : Nat) (Z0 : n0 ≤ h0.size) (E_a1 : exa0 Z h0 a1) (Fv_a1 : fld1 Z h0 a1 (.ref tb)) (Fc_a1 : fld0 Z h0 a1 (.int 0)) (V_tb : Arv Z h0 tb kd .byte (0 : Int32) [] (.int 0)) (sC : sta4 Z h0 (.int cz)) (sF : sta3 Z h0 fm) (sA : sta0 Z h0 (.int 1)) (sH : sta1 Z h0 (.int 0)) (sL : sta2 Z h0 (.int 8)) (hCS : ¬ (cz = (0 : Int32))) (hFM : fm.isRef = true) (hch : p2 < (65536 : Int32)) :
    MF l Z h0 mn10 kb24 2 (some .int) ws ro4 #[(.ref a1), (.int p2)] (Qrm34_00 Z a1 p2 tb kd cz fm h0 n0) := by
  refine own_go "java/lang/String" rfl #[rv a1, iv p2] (fun m => ef_34 m a1 p2) (plainFor_of_name pn_4) ?_
  intro p e s m below meth c s₁ S0 Bd hx hby hml hown hZ X0 e0 pre0
  have N0 := Fr.nil n0
  have pre1 : PQ p e below m S0 s₁ 3 #[rv a1, iv p2] [(.int 0), (.int p2), (.ref a1)] := by
    intro t kt
    refine pre0 t ?_
    refine ow_aloadN X0.here hx hby d34_0 rfl rfl ?_
    refine ow_iloadN X0.here hx hby d34_1 rfl ?_
    refine ow_iconst X0.here hx hby d34_2 (v := 0) rfl ?_
    exact kt
  obtain ⟨cq2, kq2, q2a, q2b, q2c⟩ := isOf hZ e0 E_a1
  obtain ⟨_, _, ⟨T2, L2, k2, n2⟩, -, X2, ⟨Lc2, hQ2, l2, y2, z2⟩, st2⟩ := X0.virtualBack hx (y := mn3) (z := mn3) hown (mw hZ hw 156 rfl) (mw hZ hw 157 rfl) (notFace_of_selects (args := #[]) (mw hZ hw 159 rfl)) (mw hZ hw 159 rfl) (mw hZ hw 158 rfl) (by decide) (backOf (W := 0) (rm35_00 l Z a0 hw [] a1 p2 (0 : Int32) tb kd cz fm h0 n0 Z0 E_a1 Fv_a1 Fc_a1 V_tb sC sF sA sH sL (hCS) (hFM) (rfl) (hch)) hZ (wi hw 160 rfl) (wi hw 5 rfl) (by decide) (by decide)) q2a q2c (g := (mkF m 3 #[rv a1, iv p2] [(.int 0), (.int p2), (.ref a1)])) rfl (by rw [hml]; rfl) (Steps.refl _) (argsL := [(.int p2), (.int 0)]) (rest := []) (lenOf pd_8 rfl) rfl (by show 2 * 0 + _ ≤ _; exact Nat.le_of_eq rfl) (hb hby d34_3) (fun _ _ => ⟨rfl, e0, (Nat.zero_le _), (Nat.zero_le _)⟩)
  dsimp only [Pt.U, Pt.locs, Pt.cells, Pt.slots] at X2 l2 y2 z2 st2 hQ2
  subst l2 y2 z2
  obtain ⟨rfl, N2q, e2⟩ := hQ2
  have N2 := Fr.app N0 N2q
  have pre2 : PQ p e below m S0 T2 6 #[rv a1, iv p2] [(.int (own_j0 p2 ))] := fun t kt => pre1 t (st2.trans kt)
  obtain ⟨fs, hr, hu, hd, hW, hme⟩ := X2.leave (v := some (.int (own_j0 p2 ))) (fun h => by rw [Bd.returns] at h; cases h)
  refine ⟨_, _, pre2 _ ?_, hu, hd, _, _, rfl, ?_, ⟨_, rfl⟩, hW, hme.mono (by decide) (by decide)⟩
  · show SQ p e below m T2 6 #[rv a1, iv p2] [(.int (own_j0 p2 ))] _
    exact retI X2 hx Bd.returns (hb hby d34_6) hr
  · show Qrm34_00 Z a1 p2 tb kd cz fm h0 n0 _ T2.heap _
    rw [e2]
    exact ⟨rfl, N2, rfl⟩
def Qrm34_01 (Z : State) (a1 : Addr) (p2 : Int32) (tb : Addr) (kd : ClassId) (x0 cz : Int32) (fm : Value) (h0 : Heap) (n0 : Nat) (v : Option Value) (h : Heap) (L : List Loc) : Prop := v = some (.int (own_j1 p2 x0)) ∧ Fr n0 L ∧ h = h0

theorem rm34_01 (l : Launch) (Z : State) (a0 : Array Value) (hw : HW a0 Z) (ws : List Jvm.Cond) (a1 : Addr) (p2 : Int32) (tb : Addr) (kd : ClassId) (x0 cz : Int32) (fm : Value) (h0 : Heap) (n0 : Nat) (Z0 : n0 ≤ h0.size) (E_a1 : exa0 Z h0 a1) (Fv_a1 : fld1 Z h0 a1 (.ref tb)) (Fc_a1 : fld0 Z h0 a1 (.int 0)) (V_tb : Arv Z h0 tb kd .byte (1 : Int32) [(.int x0)] (.int 0)) (sC : sta4 Z h0 (.int cz)) (sF : sta3 Z h0 fm) (sA : sta0 Z h0 (.int 1)) (sH : sta1 Z h0 (.int 0)) (sL : sta2 Z h0 (.int 8)) (hCS : ¬ (cz = (0 : Int32))) (hFM : fm.isRef = true) (hch : p2 < (65536 : Int32)) :
    MF l Z h0 mn10 kb24 2 (some .int) ws ro4 #[(.ref a1), (.int p2)] (Qrm34_01 Z a1 p2 tb kd x0 cz fm h0 n0) := by
  refine own_go "java/lang/String" rfl #[rv a1, iv p2] (fun m => ef_34 m a1 p2) (plainFor_of_name pn_4) ?_
  intro p e s m below meth c s₁ S0 Bd hx hby hml hown hZ X0 e0 pre0
  have N0 := Fr.nil n0
  have pre1 : PQ p e below m S0 s₁ 3 #[rv a1, iv p2] [(.int 0), (.int p2), (.ref a1)] := by
    intro t kt
    refine pre0 t ?_
    refine ow_aloadN X0.here hx hby d34_0 rfl rfl ?_
    refine ow_iloadN X0.here hx hby d34_1 rfl ?_
    refine ow_iconst X0.here hx hby d34_2 (v := 0) rfl ?_
    exact kt
  obtain ⟨cq2, kq2, q2a, q2b, q2c⟩ := isOf hZ e0 E_a1
  obtain ⟨_, _, ⟨T2, L2, k2, n2⟩, -, X2, ⟨Lc2, hQ2, l2, y2, z2⟩, st2⟩ := X0.virtualBack hx (y := mn3) (z := mn3) hown (mw hZ hw 156 rfl) (mw hZ hw 157 rfl) (notFace_of_selects (args := #[]) (mw hZ hw 159 rfl)) (mw hZ hw 159 rfl) (mw hZ hw 158 rfl) (by decide) (backOf (W := 0) (rm35_01 l Z a0 hw [] a1 p2 (0 : Int32) tb kd x0 cz fm h0 n0 Z0 E_a1 Fv_a1 Fc_a1 V_tb sC sF sA sH sL (hCS) (hFM) (rfl) (hch)) hZ (wi hw 160 rfl) (wi hw 5 rfl) (by decide) (by decide)) q2a q2c (g := (mkF m 3 #[rv a1, iv p2] [(.int 0), (.int p2), (.ref a1)])) rfl (by rw [hml]; rfl) (Steps.refl _) (argsL := [(.int p2), (.int 0)]) (rest := []) (lenOf pd_8 rfl) rfl (by show 2 * 0 + _ ≤ _; exact Nat.le_of_eq rfl) (hb hby d34_3) (fun _ _ => ⟨rfl, e0, (Nat.zero_le _), (Nat.zero_le _)⟩)
  dsimp only [Pt.U, Pt.locs, Pt.cells, Pt.slots] at X2 l2 y2 z2 st2 hQ2
  subst l2 y2 z2
  obtain ⟨rfl, N2q, e2⟩ := hQ2
  have N2 := Fr.app N0 N2q
  have pre2 : PQ p e below m S0 T2 6 #[rv a1, iv p2] [(.int (own_j1 p2 x0))] := fun t kt => pre1 t (st2.trans kt)
  obtain ⟨fs, hr, hu, hd, hW, hme⟩ := X2.leave (v := some (.int (own_j1 p2 x0))) (fun h => by rw [Bd.returns] at h; cases h)
  refine ⟨_, _, pre2 _ ?_, hu, hd, _, _, rfl, ?_, ⟨_, rfl⟩, hW, hme.mono (by decide) (by decide)⟩
  · show SQ p e below m T2 6 #[rv a1, iv p2] [(.int (own_j1 p2 x0))] _
    exact retI X2 hx Bd.returns (hb hby d34_6) hr
  · show Qrm34_01 Z a1 p2 tb kd x0 cz fm h0 n0 _ T2.heap _
    rw [e2]
    exact ⟨rfl, N2, rfl⟩
def Qrm34_02 (Z : State) (a1 : Addr) (p2 : Int32) (tb : Addr) (kd : ClassId) (x0 x1 cz : Int32) (fm : Value) (h0 : Heap) (n0 : Nat) (v : Option Value) (h : Heap) (L : List Loc) : Prop := v = some (.int (own_j2 p2 x0 x1)) ∧ Fr n0 L ∧ h = h0

theorem rm34_02 (l : Launch) (Z : State) (a0 : Array Value) (hw : HW a0 Z) (ws : List Jvm.Cond) (a1 : Addr) (p2 : Int32) (tb : Addr) (kd : ClassId) (x0 x1 cz : Int32) (fm : Value) (h0 : Heap) (n0 : Nat) (Z0 : n0 ≤ h0.size) (E_a1 : exa0 Z h0 a1) (Fv_a1 : fld1 Z h0 a1 (.ref tb)) (Fc_a1 : fld0 Z h0 a1 (.int 0)) (V_tb : Arv Z h0 tb kd .byte (2 : Int32) [(.int x0), (.int x1)] (.int 0)) (sC : sta4 Z h0 (.int cz)) (sF : sta3 Z h0 fm) (sA : sta0 Z h0 (.int 1)) (sH : sta1 Z h0 (.int 0)) (sL : sta2 Z h0 (.int 8)) (hCS : ¬ (cz = (0 : Int32))) (hFM : fm.isRef = true) (hch : p2 < (65536 : Int32)) :
    MF l Z h0 mn10 kb24 2 (some .int) ws ro4 #[(.ref a1), (.int p2)] (Qrm34_02 Z a1 p2 tb kd x0 x1 cz fm h0 n0) := by
  refine own_go "java/lang/String" rfl #[rv a1, iv p2] (fun m => ef_34 m a1 p2) (plainFor_of_name pn_4) ?_
  intro p e s m below meth c s₁ S0 Bd hx hby hml hown hZ X0 e0 pre0
  have N0 := Fr.nil n0
  have pre1 : PQ p e below m S0 s₁ 3 #[rv a1, iv p2] [(.int 0), (.int p2), (.ref a1)] := by
    intro t kt
    refine pre0 t ?_
    refine ow_aloadN X0.here hx hby d34_0 rfl rfl ?_
    refine ow_iloadN X0.here hx hby d34_1 rfl ?_
    refine ow_iconst X0.here hx hby d34_2 (v := 0) rfl ?_
    exact kt
  obtain ⟨cq2, kq2, q2a, q2b, q2c⟩ := isOf hZ e0 E_a1
  obtain ⟨_, _, ⟨T2, L2, k2, n2⟩, -, X2, ⟨Lc2, hQ2, l2, y2, z2⟩, st2⟩ := X0.virtualBack hx (y := mn3) (z := mn3) hown (mw hZ hw 156 rfl) (mw hZ hw 157 rfl) (notFace_of_selects (args := #[]) (mw hZ hw 159 rfl)) (mw hZ hw 159 rfl) (mw hZ hw 158 rfl) (by decide) (backOf (W := 0) (rm35_02 l Z a0 hw [] a1 p2 (0 : Int32) tb kd x0 x1 cz fm h0 n0 Z0 E_a1 Fv_a1 Fc_a1 V_tb sC sF sA sH sL (hCS) (hFM) (rfl) (hch)) hZ (wi hw 160 rfl) (wi hw 5 rfl) (by decide) (by decide)) q2a q2c (g := (mkF m 3 #[rv a1, iv p2] [(.int 0), (.int p2), (.ref a1)])) rfl (by rw [hml]; rfl) (Steps.refl _) (argsL := [(.int p2), (.int 0)]) (rest := []) (lenOf pd_8 rfl) rfl (by show 2 * 0 + _ ≤ _; exact Nat.le_of_eq rfl) (hb hby d34_3) (fun _ _ => ⟨rfl, e0, (Nat.zero_le _), (Nat.zero_le _)⟩)
  dsimp only [Pt.U, Pt.locs, Pt.cells, Pt.slots] at X2 l2 y2 z2 st2 hQ2
  subst l2 y2 z2
  obtain ⟨rfl, N2q, e2⟩ := hQ2
  have N2 := Fr.app N0 N2q
  have pre2 : PQ p e below m S0 T2 6 #[rv a1, iv p2] [(.int (own_j2 p2 x0 x1))] := fun t kt => pre1 t (st2.trans kt)
  obtain ⟨fs, hr, hu, hd, hW, hme⟩ := X2.leave (v := some (.int (own_j2 p2 x0 x1))) (fun h => by rw [Bd.returns] at h; cases h)
  refine ⟨_, _, pre2 _ ?_, hu, hd, _, _, rfl, ?_, ⟨_, rfl⟩, hW, hme.mono (by decide) (by decide)⟩
  · show SQ p e below m T2 6 #[rv a1, iv p2] [(.int (own_j2 p2 x0 x1))] _
    exact retI X2 hx Bd.returns (hb hby d34_6) hr
  · show Qrm34_02 Z a1 p2 tb kd x0 x1 cz fm h0 n0 _ T2.heap _
    rw [e2]
    exact ⟨rfl, N2, rfl⟩
def Qrm34_11 (Z : State) (a1 : Addr) (p2 : Int32) (tb : Addr) (kd : ClassId) (x0 x1 cz : Int32) (fm : Value) (h0 : Heap) (n0 : Nat) (v : Option Value) (h : Heap) (L : List Loc) : Prop := v = some (.int (own_u1 p2 x0 x1)) ∧ Fr n0 L ∧ h = h0

theorem rm34_11 (l : Launch) (Z : State) (a0 : Array Value) (hw : HW a0 Z) (ws : List Jvm.Cond) (a1 : Addr) (p2 : Int32) (tb : Addr) (kd : ClassId) (x0 x1 cz : Int32) (fm : Value) (h0 : Heap) (n0 : Nat) (Z0 : n0 ≤ h0.size) (E_a1 : exa0 Z h0 a1) (Fv_a1 : fld1 Z h0 a1 (.ref tb)) (Fc_a1 : fld0 Z h0 a1 (.int 1)) (V_tb : Arv Z h0 tb kd .byte (2 : Int32) [(.int x0), (.int x1)] (.int 0)) (sC : sta4 Z h0 (.int cz)) (sF : sta3 Z h0 fm) (sA : sta0 Z h0 (.int 1)) (sH : sta1 Z h0 (.int 0)) (sL : sta2 Z h0 (.int 8)) (hCS : ¬ (cz = (0 : Int32))) (hFM : fm.isRef = true) (hch : p2 < (65536 : Int32)) :
    MF l Z h0 mn10 kb24 2 (some .int) ws ro4 #[(.ref a1), (.int p2)] (Qrm34_11 Z a1 p2 tb kd x0 x1 cz fm h0 n0) := by
  refine own_go "java/lang/String" rfl #[rv a1, iv p2] (fun m => ef_34 m a1 p2) (plainFor_of_name pn_4) ?_
  intro p e s m below meth c s₁ S0 Bd hx hby hml hown hZ X0 e0 pre0
  have N0 := Fr.nil n0
  have pre1 : PQ p e below m S0 s₁ 3 #[rv a1, iv p2] [(.int 0), (.int p2), (.ref a1)] := by
    intro t kt
    refine pre0 t ?_
    refine ow_aloadN X0.here hx hby d34_0 rfl rfl ?_
    refine ow_iloadN X0.here hx hby d34_1 rfl ?_
    refine ow_iconst X0.here hx hby d34_2 (v := 0) rfl ?_
    exact kt
  obtain ⟨cq2, kq2, q2a, q2b, q2c⟩ := isOf hZ e0 E_a1
  obtain ⟨_, _, ⟨T2, L2, k2, n2⟩, -, X2, ⟨Lc2, hQ2, l2, y2, z2⟩, st2⟩ := X0.virtualBack hx (y := mn3) (z := mn3) hown (mw hZ hw 156 rfl) (mw hZ hw 157 rfl) (notFace_of_selects (args := #[]) (mw hZ hw 159 rfl)) (mw hZ hw 159 rfl) (mw hZ hw 158 rfl) (by decide) (backOf (W := 0) (rm35_11 l Z a0 hw [] a1 p2 (0 : Int32) tb kd x0 x1 cz fm h0 n0 Z0 E_a1 Fv_a1 Fc_a1 V_tb sC sF sA sH sL (hCS) (hFM) (rfl) (hch)) hZ (wi hw 160 rfl) (wi hw 5 rfl) (by decide) (by decide)) q2a q2c (g := (mkF m 3 #[rv a1, iv p2] [(.int 0), (.int p2), (.ref a1)])) rfl (by rw [hml]; rfl) (Steps.refl _) (argsL := [(.int p2), (.int 0)]) (rest := []) (lenOf pd_8 rfl) rfl (by show 2 * 0 + _ ≤ _; exact Nat.le_of_eq rfl) (hb hby d34_3) (fun _ _ => ⟨rfl, e0, (Nat.zero_le _), (Nat.zero_le _)⟩)
  dsimp only [Pt.U, Pt.locs, Pt.cells, Pt.slots] at X2 l2 y2 z2 st2 hQ2
  subst l2 y2 z2
  obtain ⟨rfl, N2q, e2⟩ := hQ2
  have N2 := Fr.app N0 N2q
  have pre2 : PQ p e below m S0 T2 6 #[rv a1, iv p2] [(.int (own_u1 p2 x0 x1))] := fun t kt => pre1 t (st2.trans kt)
  obtain ⟨fs, hr, hu, hd, hW, hme⟩ := X2.leave (v := some (.int (own_u1 p2 x0 x1))) (fun h => by rw [Bd.returns] at h; cases h)
  refine ⟨_, _, pre2 _ ?_, hu, hd, _, _, rfl, ?_, ⟨_, rfl⟩, hW, hme.mono (by decide) (by decide)⟩
  · show SQ p e below m T2 6 #[rv a1, iv p2] [(.int (own_u1 p2 x0 x1))] _
    exact retI X2 hx Bd.returns (hb hby d34_6) hr
  · show Qrm34_11 Z a1 p2 tb kd x0 x1 cz fm h0 n0 _ T2.heap _
    rw [e2]
    exact ⟨rfl, N2, rfl⟩
def Qrm34_12 (Z : State) (a1 : Addr) (p2 : Int32) (tb : Addr) (kd : ClassId) (x0 x1 : Int32) (x2 x3 cz : Int32) (fm : Value) (h0 : Heap) (n0 : Nat) (v : Option Value) (h : Heap) (L : List Loc) : Prop := v = some (.int (own_u2 p2 x0 x1 x2 x3)) ∧ Fr n0 L ∧ h = h0

theorem rm34_12 (l : Launch) (Z : State) (a0 : Array Value) (hw : HW a0 Z) (ws : List Jvm.Cond) (a1 : Addr) (p2 : Int32) (tb : Addr) (kd : ClassId) (x0 x1 : Int32) (x2 x3 cz : Int32) (fm : Value) (h0 : Heap) (n0 : Nat) (Z0 : n0 ≤ h0.size) (E_a1 : exa0 Z h0 a1) (Fv_a1 : fld1 Z h0 a1 (.ref tb)) (Fc_a1 : fld0 Z h0 a1 (.int 1)) (V_tb : Arv Z h0 tb kd .byte (4 : Int32) [(.int x0), (.int x1), (.int x2), (.int x3)] (.int 0)) (sC : sta4 Z h0 (.int cz)) (sF : sta3 Z h0 fm) (sA : sta0 Z h0 (.int 1)) (sH : sta1 Z h0 (.int 0)) (sL : sta2 Z h0 (.int 8)) (hCS : ¬ (cz = (0 : Int32))) (hFM : fm.isRef = true) (hch : p2 < (65536 : Int32)) :
    MF l Z h0 mn10 kb24 2 (some .int) ws ro4 #[(.ref a1), (.int p2)] (Qrm34_12 Z a1 p2 tb kd x0 x1 x2 x3 cz fm h0 n0) := by
  refine own_go "java/lang/String" rfl #[rv a1, iv p2] (fun m => ef_34 m a1 p2) (plainFor_of_name pn_4) ?_
  intro p e s m below meth c s₁ S0 Bd hx hby hml hown hZ X0 e0 pre0
  have N0 := Fr.nil n0
  have pre1 : PQ p e below m S0 s₁ 3 #[rv a1, iv p2] [(.int 0), (.int p2), (.ref a1)] := by
    intro t kt
    refine pre0 t ?_
    refine ow_aloadN X0.here hx hby d34_0 rfl rfl ?_
    refine ow_iloadN X0.here hx hby d34_1 rfl ?_
    refine ow_iconst X0.here hx hby d34_2 (v := 0) rfl ?_
    exact kt
  obtain ⟨cq2, kq2, q2a, q2b, q2c⟩ := isOf hZ e0 E_a1
  obtain ⟨_, _, ⟨T2, L2, k2, n2⟩, -, X2, ⟨Lc2, hQ2, l2, y2, z2⟩, st2⟩ := X0.virtualBack hx (y := mn3) (z := mn3) hown (mw hZ hw 156 rfl) (mw hZ hw 157 rfl) (notFace_of_selects (args := #[]) (mw hZ hw 159 rfl)) (mw hZ hw 159 rfl) (mw hZ hw 158 rfl) (by decide) (backOf (W := 0) (rm35_12 l Z a0 hw [] a1 p2 (0 : Int32) tb kd x0 x1 x2 x3 cz fm h0 n0 Z0 E_a1 Fv_a1 Fc_a1 V_tb sC sF sA sH sL (hCS) (hFM) (rfl) (hch)) hZ (wi hw 160 rfl) (wi hw 5 rfl) (by decide) (by decide)) q2a q2c (g := (mkF m 3 #[rv a1, iv p2] [(.int 0), (.int p2), (.ref a1)])) rfl (by rw [hml]; rfl) (Steps.refl _) (argsL := [(.int p2), (.int 0)]) (rest := []) (lenOf pd_8 rfl) rfl (by show 2 * 0 + _ ≤ _; exact Nat.le_of_eq rfl) (hb hby d34_3) (fun _ _ => ⟨rfl, e0, (Nat.zero_le _), (Nat.zero_le _)⟩)
  dsimp only [Pt.U, Pt.locs, Pt.cells, Pt.slots] at X2 l2 y2 z2 st2 hQ2
  subst l2 y2 z2
  obtain ⟨rfl, N2q, e2⟩ := hQ2
  have N2 := Fr.app N0 N2q
  have pre2 : PQ p e below m S0 T2 6 #[rv a1, iv p2] [(.int (own_u2 p2 x0 x1 x2 x3))] := fun t kt => pre1 t (st2.trans kt)
  obtain ⟨fs, hr, hu, hd, hW, hme⟩ := X2.leave (v := some (.int (own_u2 p2 x0 x1 x2 x3))) (fun h => by rw [Bd.returns] at h; cases h)
  refine ⟨_, _, pre2 _ ?_, hu, hd, _, _, rfl, ?_, ⟨_, rfl⟩, hW, hme.mono (by decide) (by decide)⟩
  · show SQ p e below m T2 6 #[rv a1, iv p2] [(.int (own_u2 p2 x0 x1 x2 x3))] _
    exact retI X2 hx Bd.returns (hb hby d34_6) hr
  · show Qrm34_12 Z a1 p2 tb kd x0 x1 x2 x3 cz fm h0 n0 _ T2.heap _
    rw [e2]
    exact ⟨rfl, N2, rfl⟩
def Qrm11 (Z : State) (p1 : Int32) (h0 : Heap) (n0 : Nat) (v : Option Value) (h : Heap) (L : List Loc) : Prop := ∃ (az : Addr) (kz : ClassId), v = some (.ref az) ∧ Fr n0 L ∧ Keep h0 h [] ∧ Arv Z h az kz .byte (1 : Int32) [(.int (own_b p1))] (.int 0) ∧ n0 ≤ az ∧ h0.size ≤ az
theorem d11_0 : decode kb33 0 = .ok (.iconst 1, 1) := by decide +kernel
theorem d11_1 : decode kb33 1 = .ok (.newarray .byte, 2) := by decide +kernel
theorem d11_3 : decode kb33 3 = .ok (.dup, 1) := by decide +kernel
theorem d11_4 : decode kb33 4 = .ok (.iconst 0, 1) := by decide +kernel
theorem d11_5 : decode kb33 5 = .ok (.iload_n 0, 1) := by decide +kernel
theorem d11_6 : decode kb33 6 = .ok (.i2b, 1) := by decide +kernel
theorem d11_7 : decode kb33 7 = .ok (.bastore, 1) := by decide +kernel
theorem d11_8 : decode kb33 8 = .ok (.areturn, 1) := by decide +kernel
theorem ef_11 (m : MethodId) (x0 : Int32) : entryFrame m #[(.int x0)] 1 = mkF m 0 #[iv x0] [] := by first | (simp [entryFrame, mkF, argsToLocals, Value.category]; done) | rfl
theorem rm11 (l : Launch) (Z : State) (a0 : Array Value) (hw : HW a0 Z) (ws : List Jvm.Cond) (p1 : Int32) (h0 : Heap) (n0 : Nat) (Z0 : n0 ≤ h0.size) :
    MF l Z h0 (⟨"java/lang/StringLatin1", "toBytes", "(C)[B"⟩ : MethodName) kb33 1 (some (.array .byte)) ws ({ frames := 0, cells := 1, slots := 1, locals := 0 } : Room) #[(.int p1)] (Qrm11 Z p1 h0 n0) := by
  refine own_go "java/lang/StringLatin1" rfl #[iv p1] (fun m => ef_11 m p1) (plainFor_of_name pn_1) ?_
  intro p e s m below meth c s₁ S0 Bd hx hby hml hown hZ X0 e0 pre0
  have N0 := Fr.nil n0
  have pre1 : PQ p e below m S0 s₁ 1 #[iv p1] [(.int 1)] := by
    intro t kt
    refine pre0 t ?_
    refine ow_iconst X0.here hx hby d11_0 (v := 1) rfl ?_
    exact kt
  obtain ⟨T2, h2, k2, X2, e2, E2, A2, st2⟩ := newP X0 hx hZ (wi hw 7 rfl) e0 (g := (mkF m 1 #[iv p1] [(.int 1)])) rfl (hb hby d11_1) rfl (by decide) (cap := 1) (by decide) (by decide) (by decide) (by decide)
  obtain ⟨b2, g2⟩ : ∃ z, z = h0.size := ⟨_, rfl⟩
  have g_b2 : n0 ≤ b2 := Nat.le_trans Z0 (Nat.le_of_eq g2.symm)
  have sz_b2 : h0.size ≤ b2 := Nat.le_trans (Keep.refl h0 []).1 (Nat.le_of_eq g2.symm)
  rw [← g2] at A2 st2
  have K2 := (Keep.refl h0 []).ext E2
  have Z2 := Nat.le_trans Z0 E2.1
  have V_b2 : Arv Z h2 b2 k2 .byte (1 : Int32) [(.int 0)] (.int 0) := (Arv.new A2 (by decide)).pad (pad_rep [] (.int 0) 1)
  have pre2 : PQ p e below m S0 T2 3 #[iv p1] [(.ref b2)] := fun t kt => pre1 t (st2 _ kt)
  have pre3 : PQ p e below m S0 T2 7 #[iv p1] [(.int (p1.toInt8.toInt32)), (.int 0), (.ref b2), (.ref b2)] := by
    intro t kt
    refine pre2 t ?_
    refine ow_dup X2.here hx hby d11_3 rfl ?_
    refine ow_iconst X2.here hx hby d11_4 (v := 0) rfl ?_
    refine ow_iloadN X2.here hx hby d11_5 rfl ?_
    refine XS.i2b X2.here hx rfl (hb hby d11_6) rfl ?_
    exact kt
  obtain ⟨cl4, Ar4, q4, S4, M4, H4, G4⟩ := (id V_b2)
  have hin4 := inb_of (j := (0 : Int32)) S4 ⟨by decide, by decide⟩
  obtain ⟨T4, h4, X4, e4, W4, st4⟩ := stB X2 hx hZ e2 Ar4 (j := (0 : Int32)) hin4 (g := (mkF m 7 #[iv p1] [(.int (p1.toInt8.toInt32)), (.int 0), (.ref b2), (.ref b2)])) rfl rfl (hb hby d11_7)
  have V_b2_4 := Arv.set Ar4 q4 S4 M4 H4 G4 (fits_nar_byte _) W4 0 rfl (Nat.le_of_ble_eq_true rfl)
  have N4 := Fr.snoc X4 N0 g_b2
  have K4 := K2.wr W4 (Or.inr sz_b2)
  have Z4 := Nat.le_trans Z2 (Keep.of_wr W4).1
  have V_b2_4' : Arv Z h4 b2 k2 .byte (1 : Int32) [(.int (nar .byte (p1.toInt8.toInt32)))] (.int 0) := V_b2_4
  have pre4 : PQ p e below m S0 T4 8 #[iv p1] [(.ref b2)] := fun t kt => pre3 t (st4 _ kt)
  obtain ⟨fs, hr, hu, hd, hW, hme⟩ := X4.leave (v := some (.ref b2)) (fun h => by rw [Bd.returns] at h; cases h)
  refine ⟨_, _, pre4 _ ?_, hu, hd, _, _, rfl, ?_, ⟨_, rfl⟩, hW, hme.mono (by decide) (by decide)⟩
  · show SQ p e below m T4 8 #[iv p1] [(.ref b2)] _
    jvm_step X4.here [X4.here.top, hx, (hb hby d11_8), X4.method', Bd.returns, Value.isRef, FieldType.isReference]
    first | (intro acts; rw [hr _ acts rfl rfl rfl]) | rw [hr _ _ rfl rfl rfl]
    exact Steps.refl _
  · show Qrm11 Z p1 h0 n0 _ T4.heap _
    rw [e4]
    exact ⟨b2, k2, rfl, N4, K4, V_b2_4', g_b2, sz_b2⟩
def Qrm46 (Z : State) (p1 : Int32) (h0 : Heap) (n0 : Nat) (v : Option Value) (h : Heap) (L : List Loc) : Prop := ∃ (az : Addr) (kz : ClassId), v = some (.ref az) ∧ Fr n0 L ∧ Keep h0 h [] ∧ Arv Z h az kz .byte (2 : Int32) [(.int (own_lo p1)), (.int (own_hi p1))] (.int 0) ∧ n0 ≤ az ∧ h0.size ≤ az
theorem d46_0 : decode kb28 0 = .ok (.iconst 2, 1) := by decide +kernel
theorem d46_1 : decode kb28 1 = .ok (.newarray .byte, 2) := by decide +kernel
theorem d46_3 : decode kb28 3 = .ok (.astore_n 1, 1) := by decide +kernel
theorem d46_4 : decode kb28 4 = .ok (.aload_n 1, 1) := by decide +kernel
theorem d46_5 : decode kb28 5 = .ok (.iconst 0, 1) := by decide +kernel
theorem d46_6 : decode kb28 6 = .ok (.iload_n 0, 1) := by decide +kernel
theorem d46_7 : decode kb28 7 = .ok (.invokestatic 111, 3) := by decide +kernel
theorem d46_10 : decode kb28 10 = .ok (.aload_n 1, 1) := by decide +kernel
theorem d46_11 : decode kb28 11 = .ok (.areturn, 1) := by decide +kernel
theorem ef_46 (m : MethodId) (x0 : Int32) : entryFrame m #[(.int x0)] 2 = mkF m 0 #[iv x0, un] [] := by first | (simp [entryFrame, mkF, argsToLocals, Value.category]; done) | rfl
theorem rm46 (l : Launch) (Z : State) (a0 : Array Value) (hw : HW a0 Z) (ws : List Jvm.Cond) (p1 : Int32) (h0 : Heap) (n0 : Nat) (Z0 : n0 ≤ h0.size) (sA : sta0 Z h0 (.int 1)) (sH : sta1 Z h0 (.int 0)) (sL : sta2 Z h0 (.int 8)) :
    MF l Z h0 (⟨"java/lang/StringUTF16", "toBytes", "(C)[B"⟩ : MethodName) kb28 2 (some (.array .byte)) ws ({ frames := 1, cells := 1, slots := 2, locals := 14 } : Room) #[(.int p1)] (Qrm46 Z p1 h0 n0) := by
  refine own_go "java/lang/StringUTF16" rfl #[iv p1, un] (fun m => ef_46 m p1) (plainFor_of_name pn_2) ?_
  intro p e s m below meth c s₁ S0 Bd hx hby hml hown hZ X0 e0 pre0
  have N0 := Fr.nil n0
  have pre1 : PQ p e below m S0 s₁ 1 #[iv p1, un] [(.int 2)] := by
    intro t kt
    refine pre0 t ?_
    refine ow_iconst X0.here hx hby d46_0 (v := 2) rfl ?_
    exact kt
  obtain ⟨T2, h2, k2, X2, e2, E2, A2, st2⟩ := newP X0 hx hZ (wi hw 7 rfl) e0 (g := (mkF m 1 #[iv p1, un] [(.int 2)])) rfl (hb hby d46_1) rfl (by decide) (cap := 2) (by decide) (by decide) (by decide) (by decide)
  obtain ⟨b2, g2⟩ : ∃ z, z = h0.size := ⟨_, rfl⟩
  have g_b2 : n0 ≤ b2 := Nat.le_trans Z0 (Nat.le_of_eq g2.symm)
  have sz_b2 : h0.size ≤ b2 := Nat.le_trans (Keep.refl h0 []).1 (Nat.le_of_eq g2.symm)
  rw [← g2] at A2 st2
  have K2 := (Keep.refl h0 []).ext E2
  have Z2 := Nat.le_trans Z0 E2.1
  have sA_3 := sA.ext E2
  have sH_4 := sH.ext E2
  have sL_5 := sL.ext E2
  have V_b2 : Arv Z h2 b2 k2 .byte (2 : Int32) [(.int 0), (.int 0)] (.int 0) := (Arv.new A2 (by decide)).pad (pad_rep [] (.int 0) 2)
  have pre2 : PQ p e below m S0 T2 3 #[iv p1, un] [(.ref b2)] := fun t kt => pre1 t (st2 _ kt)
  have pre6 : PQ p e below m S0 T2 7 #[iv p1, rv b2] [(.int p1), (.int 0), (.ref b2)] := by
    intro t kt
    refine pre2 t ?_
    refine ow_astoreN X2.here hx hby d46_3 rfl (l' := #[iv p1, rv b2]) rfl ?_
    refine ow_aloadN X2.here hx hby d46_4 rfl rfl ?_
    refine ow_iconst X2.here hx hby d46_5 (v := 0) rfl ?_
    refine ow_iloadN X2.here hx hby d46_6 rfl ?_
    exact kt
  obtain ⟨_, _, ⟨T7, L7, k7, n7⟩, -, X7, ⟨Lc7, hQ7, l7, y7, z7⟩, st7⟩ := Jvm.LawKit.callS X2 hx (y := mn14) hown (mw hZ hw 129 rfl) (mw hZ hw 130 rfl) (mw hZ hw 114 rfl) (mw hZ hw 131 rfl) (by decide) (backOf (W := 0) (rm28_10 l Z a0 hw [] b2 (0 : Int32) p1 k2 (0 : Int32) (0 : Int32) h2 n0 Z2 V_b2 sA_3 sH_4 sL_5 g_b2 (rfl)) hZ (wi hw 131 rfl) (wi hw 114 rfl) (by decide) (by decide)) (g := (mkF m 7 #[iv p1, rv b2] [(.int p1), (.int 0), (.ref b2)])) rfl (by rw [hml]; rfl) (argsL := [(.ref b2), (.int 0), (.int p1)]) (rest := []) (lenOf pd_14 rfl) rfl (by show 2 * 0 + _ ≤ _; exact Nat.le_of_eq rfl) (hb hby d46_7) (fun _ _ => ⟨rfl, e2, (by decide : 1 + 0 ≤ _), (by decide : 2 + 0 ≤ _)⟩)
  dsimp only [Pt.U, Pt.locs, Pt.cells, Pt.slots] at X7 l7 y7 z7 st7 hQ7
  subst l7 y7 z7
  obtain ⟨rfl, N7q, KC7, P7_0⟩ := hQ7
  have N7 := Fr.app N0 N7q
  have Z7 : n0 ≤ T7.heap.size := Nat.le_trans Z2 KC7.1
  have K7 := K2.trans KC7 (allS (Or.inr sz_b2) all0)
  have sA_8 := own_stak sA_3 KC7 (nsS V_b2.nostat ns0)
  have sH_9 := own_stak sH_4 KC7 (nsS V_b2.nostat ns0)
  have sL_10 := own_stak sL_5 KC7 (nsS V_b2.nostat ns0)
  have V_b2_7 : Arv Z T7.heap b2 k2 .byte (2 : Int32) [(.int (own_lo p1)), (.int (own_hi p1))] (.int 0) := P7_0
  have pre7 : PQ p e below m S0 T7 10 #[iv p1, rv b2] [] := fun t kt => pre6 t (st7 _ kt)
  have pre12 : PQ p e below m S0 T7 11 #[iv p1, rv b2] [(.ref b2)] := by
    intro t kt
    refine pre7 t ?_
    refine ow_aloadN X7.here hx hby d46_10 rfl rfl ?_
    exact kt
  obtain ⟨fs, hr, hu, hd, hW, hme⟩ := X7.leave (v := some (.ref b2)) (fun h => by rw [Bd.returns] at h; cases h)
  refine ⟨_, _, pre12 _ ?_, hu, hd, _, _, rfl, ?_, ⟨_, rfl⟩, hW, hme.mono (by decide) (by decide)⟩
  · show SQ p e below m T7 11 #[iv p1, rv b2] [(.ref b2)] _
    jvm_step X7.here [X7.here.top, hx, (hb hby d46_11), X7.method', Bd.returns, Value.isRef, FieldType.isReference]
    first | (intro acts; rw [hr _ acts rfl rfl rfl]) | rw [hr _ _ rfl rfl rfl]
    exact Steps.refl _
  · show Qrm46 Z p1 h0 n0 _ T7.heap _
    exact ⟨b2, k2, rfl, N7, K7, V_b2_7, g_b2, sz_b2⟩
def Qrm12_0 (Z : State) (a1 a2 : Addr) (p3 : Int32) (h0 : Heap) (n0 : Nat) (v : Option Value) (h : Heap) (L : List Loc) : Prop := v = none ∧ Fr n0 L ∧ Keep h0 h [a1] ∧ exa0 Z h a1 ∧ fld1 Z h a1 (.ref a2) ∧ fld0 Z h a1 (.int 0)
theorem d12_0 : decode kb25 0 = .ok (.aload_n 0, 1) := by decide +kernel
theorem d12_1 : decode kb25 1 = .ok (.invokespecial 1, 3) := by decide +kernel
theorem d12_4 : decode kb25 4 = .ok (.aload_n 0, 1) := by decide +kernel
theorem d12_5 : decode kb25 5 = .ok (.aload_n 1, 1) := by decide +kernel
theorem d12_6 : decode kb25 6 = .ok (.putfield 9, 3) := by decide +kernel
theorem d12_9 : decode kb25 9 = .ok (.aload_n 0, 1) := by decide +kernel
theorem d12_10 : decode kb25 10 = .ok (.iload_n 2, 1) := by decide +kernel
theorem d12_11 : decode kb25 11 = .ok (.putfield 15, 3) := by decide +kernel
theorem d12_14 : decode kb25 14 = .ok (.return_, 1) := by decide +kernel
theorem ef_12 (m : MethodId) (x0 x1 : Addr) (x2 : Int32) : entryFrame m #[(.ref x0), (.ref x1), (.int x2)] 3 = mkF m 0 #[rv x0, rv x1, iv x2] [] := by first | (simp [entryFrame, mkF, argsToLocals, Value.category]; done) | rfl
theorem rm12_0 (l : Launch) (Z : State) (a0 : Array Value) (hw : HW a0 Z) (ws : List Jvm.Cond) (a1 a2 : Addr) (p3 : Int32) (h0 : Heap) (n0 : Nat) (Z0 : n0 ≤ h0.size) (E_a1 : exa0 Z h0 a1) (Fv_a1 : fld1 Z h0 a1 .null) (Fc_a1 : fld0 Z h0 a1 (.int 0)) (ge_a1 : n0 ≤ a1) (hp3 : p3 = (0 : Int32)) :
    MF l Z h0 mn34 kb25 3 none ws ({ frames := 1, cells := 0, slots := 0, locals := 12 } : Room) #[(.ref a1), (.ref a2), (.int p3)] (Qrm12_0 Z a1 a2 p3 h0 n0) := by
  refine own_go "java/lang/String" rfl #[rv a1, rv a2, iv p3] (fun m => ef_12 m a1 a2 p3) (plainFor_of_name pn_4) ?_
  intro p e s m below meth c s₁ S0 Bd hx hby hml hown hZ X0 e0 pre0
  have hnm := (name_of_methodNamed Bd.named Bd.method).1
  have N0 := Fr.nil n0
  subst hp3
  have pre1 : PQ p e below m S0 s₁ 1 #[rv a1, rv a2, iv 0] [(.ref a1)] := by
    intro t kt
    refine pre0 t ?_
    refine ow_aloadN X0.here hx hby d12_0 rfl rfl ?_
    exact kt
  obtain ⟨T2, X2, e2, st2⟩ := initO X0 hx hZ hown (wi hw 70 rfl) (wi hw 24 rfl) (wi hw 25 rfl) e0 (g := (mkF m 1 #[rv a1, rv a2, iv 0] [(.ref a1)])) rfl (by rw [hml]; rfl) rfl (hb hby d12_1) (by decide) (W := 0) (by show 2 * 0 + _ ≤ _; exact Nat.le_of_eq rfl) (by decide)
  have pre2 : PQ p e below m S0 T2 4 #[rv a1, rv a2, iv 0] [] := fun t kt => pre1 t (st2 _ kt)
  have pre3 : PQ p e below m S0 T2 6 #[rv a1, rv a2, iv 0] [(.ref a2), (.ref a1)] := by
    intro t kt
    refine pre2 t ?_
    refine ow_aloadN X2.here hx hby d12_4 rfl rfl ?_
    refine ow_aloadN X2.here hx hby d12_5 rfl rfl ?_
    exact kt
  obtain ⟨T4, h4, X4, e4, W4, pre4⟩ := ow_putF pre3 X2 hx hZ hown (host := "") (Or.inl (wi hw 35 rfl)) Via.refl e2 Fv_a1 E_a1 (Or.inr ⟨(wi hw 8 rfl), rfl, hnm⟩) (wi hw 6 rfl) (ty := (.array .byte)) (by decide) rfl rfl hby d12_6
  have N4 := Fr.snoc X4 N0 ge_a1
  have K4 := (Keep.refl h0 [a1]).wr W4 (Or.inl (List.mem_of_getElem? (i := 0) rfl))
  have Z4 := Nat.le_trans Z0 (Keep.of_wr W4).1
  have E_a1_5 := E_a1.wr W4
  have Fv_a1_6 := Fv_a1.same W4
  have Fc_a1_7 := Fc_a1.other W4 (Or.inr (slot_ne (Or.inr (wi hw 9 rfl)) (Or.inr (wi hw 8 rfl)) (by decide) (t := .byte) (t' := (.array .byte)) (by decide) (by decide)))
  have pre8 : PQ p e below m S0 T4 11 #[rv a1, rv a2, iv 0] [(.int 0), (.ref a1)] := by
    intro t kt
    refine pre4 t ?_
    refine ow_aloadN X4.here hx hby d12_9 rfl rfl ?_
    refine ow_iloadN X4.here hx hby d12_10 rfl ?_
    exact kt
  obtain ⟨T9, h9, X9, e9, W9, st9⟩ := putFN X4 hx hZ hown (wi hw 42 rfl) Via.refl e4 Fc_a1_7 E_a1_5 (Or.inr ⟨(wi hw 9 rfl), rfl, hnm⟩) (wi hw 6 rfl) (ty := .byte) (v' := (.int 0)) (by decide) rfl rfl (g := (mkF m 11 #[rv a1, rv a2, iv 0] [(.int 0), (.ref a1)])) rfl rfl (hb hby d12_11)
  have N9 := Fr.snoc X9 N4 ge_a1
  have K9 := K4.wr W9 (Or.inl (List.mem_of_getElem? (i := 0) rfl))
  have Z9 := Nat.le_trans Z4 (Keep.of_wr W9).1
  have E_a1_10 := E_a1_5.wr W9
  have Fv_a1_11 := Fv_a1_6.other W9 (Or.inr (slot_ne (Or.inr (wi hw 8 rfl)) (Or.inr (wi hw 9 rfl)) (by decide) (t := (.array .byte)) (t' := .byte) (by decide) (by decide)))
  have Fc_a1_12 := Fc_a1_7.same W9
  have pre9 : PQ p e below m S0 T9 14 #[rv a1, rv a2, iv 0] [] := fun t kt => pre8 t (st9 _ kt)
  obtain ⟨fs, hr, hu, hd, hW, hme⟩ := X9.leave (v := none) (fun _ => rfl)
  refine ⟨_, _, pre9 _ ?_, hu, hd, _, _, rfl, ?_, ⟨_, rfl⟩, hW, hme.mono (by decide) (by decide)⟩
  · show SQ p e below m T9 14 #[rv a1, rv a2, iv 0] [] _
    exact X9.returnOut hx Bd.returns (hb hby d12_14) hr
  · show Qrm12_0 Z a1 a2 (0 : Int32) h0 n0 _ T9.heap _
    rw [e9]
    exact ⟨rfl, N9, K9, E_a1_10, Fv_a1_11, Fc_a1_12⟩
def Qrm12_1 (Z : State) (a1 a2 : Addr) (p3 : Int32) (h0 : Heap) (n0 : Nat) (v : Option Value) (h : Heap) (L : List Loc) : Prop := v = none ∧ Fr n0 L ∧ Keep h0 h [a1] ∧ exa0 Z h a1 ∧ fld1 Z h a1 (.ref a2) ∧ fld0 Z h a1 (.int 1)

theorem rm12_1 (l : Launch) (Z : State) (a0 : Array Value) (hw : HW a0 Z) (ws : List Jvm.Cond) (a1 a2 : Addr) (p3 : Int32) (h0 : Heap) (n0 : Nat) (Z0 : n0 ≤ h0.size) (E_a1 : exa0 Z h0 a1) (Fv_a1 : fld1 Z h0 a1 .null) (Fc_a1 : fld0 Z h0 a1 (.int 0)) (ge_a1 : n0 ≤ a1) (hp3 : p3 = (1 : Int32)) :
    MF l Z h0 mn34 kb25 3 none ws ({ frames := 1, cells := 0, slots := 0, locals := 12 } : Room) #[(.ref a1), (.ref a2), (.int p3)] (Qrm12_1 Z a1 a2 p3 h0 n0) := by
  refine own_go "java/lang/String" rfl #[rv a1, rv a2, iv p3] (fun m => ef_12 m a1 a2 p3) (plainFor_of_name pn_4) ?_
  intro p e s m below meth c s₁ S0 Bd hx hby hml hown hZ X0 e0 pre0
  have hnm := (name_of_methodNamed Bd.named Bd.method).1
  have N0 := Fr.nil n0
  subst hp3
  have pre1 : PQ p e below m S0 s₁ 1 #[rv a1, rv a2, iv 1] [(.ref a1)] := by
    intro t kt
    refine pre0 t ?_
    refine ow_aloadN X0.here hx hby d12_0 rfl rfl ?_
    exact kt
  obtain ⟨T2, X2, e2, st2⟩ := initO X0 hx hZ hown (wi hw 70 rfl) (wi hw 24 rfl) (wi hw 25 rfl) e0 (g := (mkF m 1 #[rv a1, rv a2, iv 1] [(.ref a1)])) rfl (by rw [hml]; rfl) rfl (hb hby d12_1) (by decide) (W := 0) (by show 2 * 0 + _ ≤ _; exact Nat.le_of_eq rfl) (by decide)
  have pre2 : PQ p e below m S0 T2 4 #[rv a1, rv a2, iv 1] [] := fun t kt => pre1 t (st2 _ kt)
  have pre3 : PQ p e below m S0 T2 6 #[rv a1, rv a2, iv 1] [(.ref a2), (.ref a1)] := by
    intro t kt
    refine pre2 t ?_
    refine ow_aloadN X2.here hx hby d12_4 rfl rfl ?_
    refine ow_aloadN X2.here hx hby d12_5 rfl rfl ?_
    exact kt
  obtain ⟨T4, h4, X4, e4, W4, pre4⟩ := ow_putF pre3 X2 hx hZ hown (host := "") (Or.inl (wi hw 35 rfl)) Via.refl e2 Fv_a1 E_a1 (Or.inr ⟨(wi hw 8 rfl), rfl, hnm⟩) (wi hw 6 rfl) (ty := (.array .byte)) (by decide) rfl rfl hby d12_6
  have N4 := Fr.snoc X4 N0 ge_a1
  have K4 := (Keep.refl h0 [a1]).wr W4 (Or.inl (List.mem_of_getElem? (i := 0) rfl))
  have Z4 := Nat.le_trans Z0 (Keep.of_wr W4).1
  have E_a1_5 := E_a1.wr W4
  have Fv_a1_6 := Fv_a1.same W4
  have Fc_a1_7 := Fc_a1.other W4 (Or.inr (slot_ne (Or.inr (wi hw 9 rfl)) (Or.inr (wi hw 8 rfl)) (by decide) (t := .byte) (t' := (.array .byte)) (by decide) (by decide)))
  have pre8 : PQ p e below m S0 T4 11 #[rv a1, rv a2, iv 1] [(.int 1), (.ref a1)] := by
    intro t kt
    refine pre4 t ?_
    refine ow_aloadN X4.here hx hby d12_9 rfl rfl ?_
    refine ow_iloadN X4.here hx hby d12_10 rfl ?_
    exact kt
  obtain ⟨T9, h9, X9, e9, W9, st9⟩ := putFN X4 hx hZ hown (wi hw 42 rfl) Via.refl e4 Fc_a1_7 E_a1_5 (Or.inr ⟨(wi hw 9 rfl), rfl, hnm⟩) (wi hw 6 rfl) (ty := .byte) (v' := (.int 1)) (by decide) rfl rfl (g := (mkF m 11 #[rv a1, rv a2, iv 1] [(.int 1), (.ref a1)])) rfl rfl (hb hby d12_11)
  have N9 := Fr.snoc X9 N4 ge_a1
  have K9 := K4.wr W9 (Or.inl (List.mem_of_getElem? (i := 0) rfl))
  have Z9 := Nat.le_trans Z4 (Keep.of_wr W9).1
  have E_a1_10 := E_a1_5.wr W9
  have Fv_a1_11 := Fv_a1_6.other W9 (Or.inr (slot_ne (Or.inr (wi hw 8 rfl)) (Or.inr (wi hw 9 rfl)) (by decide) (t := (.array .byte)) (t' := .byte) (by decide) (by decide)))
  have Fc_a1_12 := Fc_a1_7.same W9
  have pre9 : PQ p e below m S0 T9 14 #[rv a1, rv a2, iv 1] [] := fun t kt => pre8 t (st9 _ kt)
  obtain ⟨fs, hr, hu, hd, hW, hme⟩ := X9.leave (v := none) (fun _ => rfl)
  refine ⟨_, _, pre9 _ ?_, hu, hd, _, _, rfl, ?_, ⟨_, rfl⟩, hW, hme.mono (by decide) (by decide)⟩
  · show SQ p e below m T9 14 #[rv a1, rv a2, iv 1] [] _
    exact X9.returnOut hx Bd.returns (hb hby d12_14) hr
  · show Qrm12_1 Z a1 a2 (1 : Int32) h0 n0 _ T9.heap _
    rw [e9]
    exact ⟨rfl, N9, K9, E_a1_10, Fv_a1_11, Fc_a1_12⟩
def Qrm9_0 (Z : State) (p1 cz : Int32) (h0 : Heap) (n0 : Nat) (v : Option Value) (h : Heap) (L : List Loc) : Prop := ∃ (az tz : Addr) (kz : ClassId), v = some (.ref az) ∧ Fr n0 L ∧ Keep h0 h [] ∧ exa0 Z h az ∧ fld1 Z h az (.ref tz) ∧ fld0 Z h az (.int 0) ∧ Arv Z h tz kz .byte (1 : Int32) [(.int (own_b p1))] (.int 0) ∧ n0 ≤ az ∧ h0.size ≤ az
theorem d9_0 : decode kb15 0 = .ok (.getstatic 38, 3) := by decide +kernel
theorem d9_3 : decode kb15 3 = .ok (.ifCond .eq 23, 3) := by decide +kernel
theorem d9_6 : decode kb15 6 = .ok (.iload_n 0, 1) := by decide +kernel
theorem d9_7 : decode kb15 7 = .ok (.invokestatic 1015, 3) := by decide +kernel
theorem d9_10 : decode kb15 10 = .ok (.ifCond .eq 16, 3) := by decide +kernel
theorem d9_13 : decode kb15 13 = .ok (.new 10, 3) := by decide +kernel
theorem d9_16 : decode kb15 16 = .ok (.dup, 1) := by decide +kernel
theorem d9_17 : decode kb15 17 = .ok (.iload_n 0, 1) := by decide +kernel
theorem d9_18 : decode kb15 18 = .ok (.invokestatic 1018, 3) := by decide +kernel
theorem d9_21 : decode kb15 21 = .ok (.iconst 0, 1) := by decide +kernel
theorem d9_22 : decode kb15 22 = .ok (.invokespecial 209, 3) := by decide +kernel
theorem d9_25 : decode kb15 25 = .ok (.areturn, 1) := by decide +kernel
theorem ef_9 (m : MethodId) (x0 : Int32) : entryFrame m #[(.int x0)] 1 = mkF m 0 #[iv x0] [] := by first | (simp [entryFrame, mkF, argsToLocals, Value.category]; done) | rfl
theorem rm9_0 (l : Launch) (Z : State) (a0 : Array Value) (hw : HW a0 Z) (ws : List Jvm.Cond) (p1 cz : Int32) (h0 : Heap) (n0 : Nat) (Z0 : n0 ≤ h0.size) (sC : sta4 Z h0 (.int cz)) (sA : sta0 Z h0 (.int 1)) (sH : sta1 Z h0 (.int 0)) (sL : sta2 Z h0 (.int 8)) (hCS : ¬ (cz = (0 : Int32))) (hE : ¬ own_f10 p1 = 0) :
    MF l Z h0 mn35 kb15 1 (some (.object "java/lang/String")) ws ({ frames := 2, cells := 2, slots := 5, locals := 27 } : Room) #[(.int p1)] (Qrm9_0 Z p1 cz h0 n0) := by
  refine own_go "java/lang/String" rfl #[iv p1] (fun m => ef_9 m p1) (plainFor_of_name pn_4) ?_
  intro p e s m below meth c s₁ S0 Bd hx hby hml hown hZ X0 e0 pre0
  have N0 := Fr.nil n0
  obtain ⟨T1, X1, e1, st1⟩ := getS2 X0 hx hZ hown (host := "") (Or.inl (wi hw 41 rfl)) Via.refl e0 sC (g := (mkF m 0 #[iv p1] [])) rfl (hb hby d9_0)
  have pre1 : PQ p e below m S0 T1 3 #[iv p1] [(.int cz)] := fun t kt => pre0 t (st1 _ kt)
  have pre2 : PQ p e below m S0 T1 7 #[iv p1] [(.int p1)] := by
    intro t kt
    refine pre1 t ?_
    refine ow_ifNo X1.here hx hby d9_3 ((if0 _ _).trans (feq hCS).1) ?_
    refine ow_iloadN X1.here hx hby d9_6 rfl ?_
    exact kt
  obtain ⟨_, _, ⟨T3, L3, k3, n3⟩, -, X3, ⟨Lc3, hQ3, l3, y3, z3⟩, st3⟩ := Jvm.LawKit.callS X1 hx (y := mn26) hown (mw hZ hw 58 rfl) (mw hZ hw 59 rfl) (mw hZ hw 60 rfl) (mw hZ hw 61 rfl) (by decide) (backOf (W := 0) (rm10 l Z a0 hw [] p1 h0 n0) hZ (wi hw 61 rfl) (wi hw 60 rfl) (by decide) (by decide)) (g := (mkF m 7 #[iv p1] [(.int p1)])) rfl (by rw [hml]; rfl) (argsL := [(.int p1)]) (rest := []) (lenOf pd_15 rfl) rfl (by show 2 * 0 + _ ≤ _; exact Nat.le_of_eq rfl) (hb hby d9_7) (fun _ _ => ⟨rfl, e1, (Nat.zero_le _), (Nat.zero_le _)⟩)
  dsimp only [Pt.U, Pt.locs, Pt.cells, Pt.slots] at X3 l3 y3 z3 st3 hQ3
  subst l3 y3 z3
  obtain ⟨rfl, N3q, e3⟩ := hQ3
  have N3 := Fr.app N0 N3q
  have pre3 : PQ p e below m S0 T3 10 #[iv p1] [(.int (own_f10 p1))] := fun t kt => pre2 t (st3 _ kt)
  have pre4 : PQ p e below m S0 T3 13 #[iv p1] [] := by
    intro t kt
    refine pre3 t ?_
    refine ow_ifNo X3.here hx hby d9_10 ((if0 _ _).trans (feq hE).1) ?_
    exact kt
  obtain ⟨T5, h5, X5, e5, E5, A5, D5, -, st5⟩ := newO X3 hx hZ hown (wi hw 62 rfl) (wi hw 6 rfl) (wi hw 5 rfl) e3 (g := (mkF m 13 #[iv p1] [])) rfl (hb hby d9_13) (by decide) (by decide)
  obtain ⟨b5, g5⟩ : ∃ z, z = h0.size := ⟨_, rfl⟩
  have g_b5 : n0 ≤ b5 := Nat.le_trans Z0 (Nat.le_of_eq g5.symm)
  have sz_b5 : h0.size ≤ b5 := Nat.le_trans (Keep.refl h0 []).1 (Nat.le_of_eq g5.symm)
  rw [← g5] at A5 D5 st5
  have K5 := (Keep.refl h0 []).ext E5
  have Z5 := Nat.le_trans Z0 E5.1
  have sC_6 := sC.ext E5
  have sA_7 := sA.ext E5
  have sH_8 := sH.ext E5
  have sL_9 := sL.ext E5
  have Fv_b5 : fld1 Z h5 b5 .null := D5 (Or.inr (wi hw 8 rfl)) (ty := (.array .byte)) (by decide)
  have Fc_b5 : fld0 Z h5 b5 (.int 0) := D5 (Or.inr (wi hw 9 rfl)) (ty := .byte) (by decide)
  have pre5 : PQ p e below m S0 T5 16 #[iv p1] [(.ref b5)] := fun t kt => pre4 t (st5 _ kt)
  have pre10 : PQ p e below m S0 T5 18 #[iv p1] [(.int p1), (.ref b5), (.ref b5)] := by
    intro t kt
    refine pre5 t ?_
    refine ow_dup X5.here hx hby d9_16 rfl ?_
    refine ow_iloadN X5.here hx hby d9_17 rfl ?_
    exact kt
  obtain ⟨_, _, ⟨T11, L11, k11, n11⟩, -, X11, ⟨Lc11, hQ11, l11, y11, z11⟩, st11⟩ := Jvm.LawKit.callS X5 hx (y := (⟨"java/lang/StringLatin1", "toBytes", "(C)[B"⟩ : MethodName)) hown (mw hZ hw 63 rfl) (mw hZ hw 64 rfl) (mw hZ hw 60 rfl) (mw hZ hw 65 rfl) (by decide) (backOf (W := 2) (rm11 l Z a0 hw [] p1 h5 n0 Z5) hZ (wi hw 65 rfl) (wi hw 60 rfl) (by decide) (by decide)) (g := (mkF m 18 #[iv p1] [(.int p1), (.ref b5), (.ref b5)])) rfl (by rw [hml]; rfl) (argsL := [(.int p1)]) (rest := [(.ref b5), (.ref b5)]) (lenOf pd_16 rfl) rfl (by show 2 * 0 + _ ≤ _; exact Nat.le_of_eq rfl) (hb hby d9_18) (fun _ _ => ⟨rfl, e5, (by decide : 1 + 1 ≤ _), (by decide : 4 + 1 ≤ _)⟩)
  dsimp only [Pt.U, Pt.locs, Pt.cells, Pt.slots] at X11 l11 y11 z11 st11 hQ11
  subst l11 y11 z11
  obtain ⟨az_11, kz_11, rfl, N11q, KC11, P11_0, R11_0, R11_1⟩ := hQ11
  have N11 := Fr.app N3 N11q
  have Z11 : n0 ≤ T11.heap.size := Nat.le_trans Z5 KC11.1
  have K11 := K5.trans KC11 all0
  have sC_12 := own_stak sC_6 KC11 ns0
  have sA_13 := own_stak sA_7 KC11 ns0
  have sH_14 := own_stak sH_8 KC11 ns0
  have sL_15 := own_stak sL_9 KC11 ns0
  have A5_16 := A5.keep KC11
  have Fv_b5_17 := Fv_b5.keep KC11 nin0
  have Fc_b5_18 := Fc_b5.keep KC11 nin0
  have ne_b5_az_11 : b5 ≠ az_11 := Nat.ne_of_lt (Nat.lt_of_lt_of_le Fc_b5.lt R11_1)
  have V_az_11_11 : Arv Z T11.heap az_11 kz_11 .byte (1 : Int32) [(.int (own_b p1))] (.int 0) := P11_0
  have pre11 : PQ p e below m S0 T11 21 #[iv p1] [(.ref az_11), (.ref b5), (.ref b5)] := fun t kt => pre10 t (st11 _ kt)
  have pre19 : PQ p e below m S0 T11 22 #[iv p1] [(.int 0), (.ref az_11), (.ref b5), (.ref b5)] := by
    intro t kt
    refine pre11 t ?_
    refine ow_iconst X11.here hx hby d9_21 (v := 0) rfl ?_
    exact kt
  obtain ⟨_, _, ⟨T20, L20, k20, n20⟩, -, X20, ⟨Lc20, hQ20, l20, y20, z20⟩, st20⟩ := X11.specialBack hx (y := mn34) rfl hown (mw hZ hw 66 rfl) (mw hZ hw 67 rfl) (mw hZ hw 69 rfl) (by decide) (backOf (W := 1) (rm12_0 l Z a0 hw [] b5 az_11 (0 : Int32) T11.heap n0 Z11 A5_16 Fv_b5_17 Fc_b5_18 g_b5 (rfl)) hZ (wi hw 69 rfl) (wi hw 5 rfl) (by decide) (by decide)) (g := (mkF m 22 #[iv p1] [(.int 0), (.ref az_11), (.ref b5), (.ref b5)])) rfl (by rw [hml]; rfl) (Steps.refl _) (a := b5) (argsL := [(.ref az_11), (.int 0)]) (rest := [(.ref b5)]) (lenOf pd_17 rfl) rfl (by show 2 * 0 + _ ≤ _; exact Nat.le_of_eq rfl) (hb hby d9_22) (fun _ _ => ⟨rfl, rfl, (by decide : 2 + 0 ≤ _), (by decide : 5 + 0 ≤ _)⟩)
  dsimp only [Pt.U, Pt.locs, Pt.cells, Pt.slots] at X20 l20 y20 z20 st20 hQ20
  subst l20 y20 z20
  obtain ⟨rfl, N20q, KC20, P20_0, P20_1, P20_2⟩ := hQ20
  have N20 := Fr.app N11 N20q
  have Z20 : n0 ≤ T20.heap.size := Nat.le_trans Z11 KC20.1
  have K20 := K11.trans KC20 (allS (Or.inr sz_b5) all0)
  have sC_21 := own_stak sC_12 KC20 (nsS A5_16.nostat ns0)
  have sA_22 := own_stak sA_13 KC20 (nsS A5_16.nostat ns0)
  have sH_23 := own_stak sH_14 KC20 (nsS A5_16.nostat ns0)
  have sL_24 := own_stak sL_15 KC20 (nsS A5_16.nostat ns0)
  have A5_25 := A5_16.keep KC20
  have V_az_11_11_28 := V_az_11_11.keep KC20 (ninS (Ne.symm ne_b5_az_11) nin0)
  have E_b5_20 : exa0 Z T20.heap b5 := P20_0
  have Fv_b5_20 : fld1 Z T20.heap b5 (.ref az_11) := P20_1
  have Fc_b5_20 : fld0 Z T20.heap b5 (.int 0) := P20_2
  have pre20 : PQ p e below m S0 T20 25 #[iv p1] [(.ref b5)] := fun t kt => pre19 t (st20.trans kt)
  obtain ⟨fs, hr, hu, hd, hW, hme⟩ := X20.leave (v := some (.ref b5)) (fun h => by rw [Bd.returns] at h; cases h)
  refine ⟨_, _, pre20 _ ?_, hu, hd, _, _, rfl, ?_, ⟨_, rfl⟩, hW, hme.mono (by decide) (by decide)⟩
  · show SQ p e below m T20 25 #[iv p1] [(.ref b5)] _
    jvm_step X20.here [X20.here.top, hx, (hb hby d9_25), X20.method', Bd.returns, Value.isRef, FieldType.isReference]
    first | (intro acts; rw [hr _ acts rfl rfl rfl]) | rw [hr _ _ rfl rfl rfl]
    exact Steps.refl _
  · show Qrm9_0 Z p1 cz h0 n0 _ T20.heap _
    exact ⟨b5, az_11, kz_11, rfl, N20, K20, E_b5_20, Fv_b5_20, Fc_b5_20, V_az_11_11_28, g_b5, sz_b5⟩
def Qrm9_1 (Z : State) (p1 cz : Int32) (h0 : Heap) (n0 : Nat) (v : Option Value) (h : Heap) (L : List Loc) : Prop := ∃ (az tz : Addr) (kz : ClassId), v = some (.ref az) ∧ Fr n0 L ∧ Keep h0 h [] ∧ exa0 Z h az ∧ fld1 Z h az (.ref tz) ∧ fld0 Z h az (.int 1) ∧ Arv Z h tz kz .byte (2 : Int32) [(.int (own_lo p1)), (.int (own_hi p1))] (.int 0) ∧ n0 ≤ az ∧ h0.size ≤ az
theorem d9_26 : decode kb15 26 = .ok (.new 10, 3) := by decide +kernel
theorem d9_29 : decode kb15 29 = .ok (.dup, 1) := by decide +kernel
theorem d9_30 : decode kb15 30 = .ok (.iload_n 0, 1) := by decide +kernel
theorem d9_31 : decode kb15 31 = .ok (.invokestatic 1021, 3) := by decide +kernel
theorem d9_34 : decode kb15 34 = .ok (.iconst 1, 1) := by decide +kernel
theorem d9_35 : decode kb15 35 = .ok (.invokespecial 209, 3) := by decide +kernel
theorem d9_38 : decode kb15 38 = .ok (.areturn, 1) := by decide +kernel

theorem rm9_1 (l : Launch) (Z : State) (a0 : Array Value) (hw : HW a0 Z) (ws : List Jvm.Cond) (p1 cz : Int32) (h0 : Heap) (n0 : Nat) (Z0 : n0 ≤ h0.size) (sC : sta4 Z h0 (.int cz)) (sA : sta0 Z h0 (.int 1)) (sH : sta1 Z h0 (.int 0)) (sL : sta2 Z h0 (.int 8)) (hCS : ¬ (cz = (0 : Int32))) (hE : own_f10 p1 = 0) :
    MF l Z h0 mn35 kb15 1 (some (.object "java/lang/String")) ws ({ frames := 2, cells := 2, slots := 6, locals := 29 } : Room) #[(.int p1)] (Qrm9_1 Z p1 cz h0 n0) := by
  refine own_go "java/lang/String" rfl #[iv p1] (fun m => ef_9 m p1) (plainFor_of_name pn_4) ?_
  intro p e s m below meth c s₁ S0 Bd hx hby hml hown hZ X0 e0 pre0
  have N0 := Fr.nil n0
  obtain ⟨T1, X1, e1, st1⟩ := getS2 X0 hx hZ hown (host := "") (Or.inl (wi hw 41 rfl)) Via.refl e0 sC (g := (mkF m 0 #[iv p1] [])) rfl (hb hby d9_0)
  have pre1 : PQ p e below m S0 T1 3 #[iv p1] [(.int cz)] := fun t kt => pre0 t (st1 _ kt)
  have pre2 : PQ p e below m S0 T1 7 #[iv p1] [(.int p1)] := by
    intro t kt
    refine pre1 t ?_
    refine ow_ifNo X1.here hx hby d9_3 ((if0 _ _).trans (feq hCS).1) ?_
    refine ow_iloadN X1.here hx hby d9_6 rfl ?_
    exact kt
  obtain ⟨_, _, ⟨T3, L3, k3, n3⟩, -, X3, ⟨Lc3, hQ3, l3, y3, z3⟩, st3⟩ := Jvm.LawKit.callS X1 hx (y := mn26) hown (mw hZ hw 58 rfl) (mw hZ hw 59 rfl) (mw hZ hw 60 rfl) (mw hZ hw 61 rfl) (by decide) (backOf (W := 0) (rm10 l Z a0 hw [] p1 h0 n0) hZ (wi hw 61 rfl) (wi hw 60 rfl) (by decide) (by decide)) (g := (mkF m 7 #[iv p1] [(.int p1)])) rfl (by rw [hml]; rfl) (argsL := [(.int p1)]) (rest := []) (lenOf pd_15 rfl) rfl (by show 2 * 0 + _ ≤ _; exact Nat.le_of_eq rfl) (hb hby d9_7) (fun _ _ => ⟨rfl, e1, (Nat.zero_le _), (Nat.zero_le _)⟩)
  dsimp only [Pt.U, Pt.locs, Pt.cells, Pt.slots] at X3 l3 y3 z3 st3 hQ3
  subst l3 y3 z3
  obtain ⟨rfl, N3q, e3⟩ := hQ3
  have N3 := Fr.app N0 N3q
  have pre3 : PQ p e below m S0 T3 10 #[iv p1] [(.int (own_f10 p1))] := fun t kt => pre2 t (st3 _ kt)
  have pre4 : PQ p e below m S0 T3 26 #[iv p1] [] := by
    intro t kt
    refine pre3 t ?_
    refine ow_ifYes X3.here hx hby d9_10 ((if0 _ _).trans (teq hE).1) (pc' := 26) (by decide) (by decide) ?_
    exact kt
  obtain ⟨T5, h5, X5, e5, E5, A5, D5, -, st5⟩ := newO X3 hx hZ hown (wi hw 62 rfl) (wi hw 6 rfl) (wi hw 5 rfl) e3 (g := (mkF m 26 #[iv p1] [])) rfl (hb hby d9_26) (by decide) (by decide)
  obtain ⟨b5, g5⟩ : ∃ z, z = h0.size := ⟨_, rfl⟩
  have g_b5 : n0 ≤ b5 := Nat.le_trans Z0 (Nat.le_of_eq g5.symm)
  have sz_b5 : h0.size ≤ b5 := Nat.le_trans (Keep.refl h0 []).1 (Nat.le_of_eq g5.symm)
  rw [← g5] at A5 D5 st5
  have K5 := (Keep.refl h0 []).ext E5
  have Z5 := Nat.le_trans Z0 E5.1
  have sC_6 := sC.ext E5
  have sA_7 := sA.ext E5
  have sH_8 := sH.ext E5
  have sL_9 := sL.ext E5
  have Fv_b5 : fld1 Z h5 b5 .null := D5 (Or.inr (wi hw 8 rfl)) (ty := (.array .byte)) (by decide)
  have Fc_b5 : fld0 Z h5 b5 (.int 0) := D5 (Or.inr (wi hw 9 rfl)) (ty := .byte) (by decide)
  have pre5 : PQ p e below m S0 T5 29 #[iv p1] [(.ref b5)] := fun t kt => pre4 t (st5 _ kt)
  have pre10 : PQ p e below m S0 T5 31 #[iv p1] [(.int p1), (.ref b5), (.ref b5)] := by
    intro t kt
    refine pre5 t ?_
    refine ow_dup X5.here hx hby d9_29 rfl ?_
    refine ow_iloadN X5.here hx hby d9_30 rfl ?_
    exact kt
  obtain ⟨_, _, ⟨T11, L11, k11, n11⟩, -, X11, ⟨Lc11, hQ11, l11, y11, z11⟩, st11⟩ := Jvm.LawKit.callS X5 hx (y := (⟨"java/lang/StringUTF16", "toBytes", "(C)[B"⟩ : MethodName)) hown (mw hZ hw 196 rfl) (mw hZ hw 197 rfl) (mw hZ hw 114 rfl) (mw hZ hw 198 rfl) (by decide) (backOf (W := 2) (rm46 l Z a0 hw [] p1 h5 n0 Z5 sA_7 sH_8 sL_9) hZ (wi hw 198 rfl) (wi hw 114 rfl) (by decide) (by decide)) (g := (mkF m 31 #[iv p1] [(.int p1), (.ref b5), (.ref b5)])) rfl (by rw [hml]; rfl) (argsL := [(.int p1)]) (rest := [(.ref b5), (.ref b5)]) (lenOf pd_16 rfl) rfl (by show 2 * 0 + _ ≤ _; exact Nat.le_of_eq rfl) (hb hby d9_31) (fun _ _ => ⟨rfl, e5, (by decide : 1 + 1 ≤ _), (by decide : 4 + 2 ≤ _)⟩)
  dsimp only [Pt.U, Pt.locs, Pt.cells, Pt.slots] at X11 l11 y11 z11 st11 hQ11
  subst l11 y11 z11
  obtain ⟨az_11, kz_11, rfl, N11q, KC11, P11_0, R11_0, R11_1⟩ := hQ11
  have N11 := Fr.app N3 N11q
  have Z11 : n0 ≤ T11.heap.size := Nat.le_trans Z5 KC11.1
  have K11 := K5.trans KC11 all0
  have sC_12 := own_stak sC_6 KC11 ns0
  have sA_13 := own_stak sA_7 KC11 ns0
  have sH_14 := own_stak sH_8 KC11 ns0
  have sL_15 := own_stak sL_9 KC11 ns0
  have A5_16 := A5.keep KC11
  have Fv_b5_17 := Fv_b5.keep KC11 nin0
  have Fc_b5_18 := Fc_b5.keep KC11 nin0
  have ne_b5_az_11 : b5 ≠ az_11 := Nat.ne_of_lt (Nat.lt_of_lt_of_le Fc_b5.lt R11_1)
  have V_az_11_11 : Arv Z T11.heap az_11 kz_11 .byte (2 : Int32) [(.int (own_lo p1)), (.int (own_hi p1))] (.int 0) := P11_0
  have pre11 : PQ p e below m S0 T11 34 #[iv p1] [(.ref az_11), (.ref b5), (.ref b5)] := fun t kt => pre10 t (st11 _ kt)
  have pre19 : PQ p e below m S0 T11 35 #[iv p1] [(.int 1), (.ref az_11), (.ref b5), (.ref b5)] := by
    intro t kt
    refine pre11 t ?_
    refine ow_iconst X11.here hx hby d9_34 (v := 1) rfl ?_
    exact kt
  obtain ⟨_, _, ⟨T20, L20, k20, n20⟩, -, X20, ⟨Lc20, hQ20, l20, y20, z20⟩, st20⟩ := X11.specialBack hx (y := mn34) rfl hown (mw hZ hw 66 rfl) (mw hZ hw 67 rfl) (mw hZ hw 69 rfl) (by decide) (backOf (W := 1) (rm12_1 l Z a0 hw [] b5 az_11 (1 : Int32) T11.heap n0 Z11 A5_16 Fv_b5_17 Fc_b5_18 g_b5 (rfl)) hZ (wi hw 69 rfl) (wi hw 5 rfl) (by decide) (by decide)) (g := (mkF m 35 #[iv p1] [(.int 1), (.ref az_11), (.ref b5), (.ref b5)])) rfl (by rw [hml]; rfl) (Steps.refl _) (a := b5) (argsL := [(.ref az_11), (.int 1)]) (rest := [(.ref b5)]) (lenOf pd_17 rfl) rfl (by show 2 * 0 + _ ≤ _; exact Nat.le_of_eq rfl) (hb hby d9_35) (fun _ _ => ⟨rfl, rfl, (by decide : 2 + 0 ≤ _), (by decide : 6 + 0 ≤ _)⟩)
  dsimp only [Pt.U, Pt.locs, Pt.cells, Pt.slots] at X20 l20 y20 z20 st20 hQ20
  subst l20 y20 z20
  obtain ⟨rfl, N20q, KC20, P20_0, P20_1, P20_2⟩ := hQ20
  have N20 := Fr.app N11 N20q
  have Z20 : n0 ≤ T20.heap.size := Nat.le_trans Z11 KC20.1
  have K20 := K11.trans KC20 (allS (Or.inr sz_b5) all0)
  have sC_21 := own_stak sC_12 KC20 (nsS A5_16.nostat ns0)
  have sA_22 := own_stak sA_13 KC20 (nsS A5_16.nostat ns0)
  have sH_23 := own_stak sH_14 KC20 (nsS A5_16.nostat ns0)
  have sL_24 := own_stak sL_15 KC20 (nsS A5_16.nostat ns0)
  have A5_25 := A5_16.keep KC20
  have V_az_11_11_28 := V_az_11_11.keep KC20 (ninS (Ne.symm ne_b5_az_11) nin0)
  have E_b5_20 : exa0 Z T20.heap b5 := P20_0
  have Fv_b5_20 : fld1 Z T20.heap b5 (.ref az_11) := P20_1
  have Fc_b5_20 : fld0 Z T20.heap b5 (.int 1) := P20_2
  have pre20 : PQ p e below m S0 T20 38 #[iv p1] [(.ref b5)] := fun t kt => pre19 t (st20.trans kt)
  obtain ⟨fs, hr, hu, hd, hW, hme⟩ := X20.leave (v := some (.ref b5)) (fun h => by rw [Bd.returns] at h; cases h)
  refine ⟨_, _, pre20 _ ?_, hu, hd, _, _, rfl, ?_, ⟨_, rfl⟩, hW, hme.mono (by decide) (by decide)⟩
  · show SQ p e below m T20 38 #[iv p1] [(.ref b5)] _
    jvm_step X20.here [X20.here.top, hx, (hb hby d9_38), X20.method', Bd.returns, Value.isRef, FieldType.isReference]
    first | (intro acts; rw [hr _ acts rfl rfl rfl]) | rw [hr _ _ rfl rfl rfl]
    exact Steps.refl _
  · show Qrm9_1 Z p1 cz h0 n0 _ T20.heap _
    exact ⟨b5, az_11, kz_11, rfl, N20, K20, E_b5_20, Fv_b5_20, Fc_b5_20, V_az_11_11_28, g_b5, sz_b5⟩
def Qrm24_L (Z : State) (a1 : Addr) (p2 : Int32) (a3 : Addr) (p4 p5 : Int32) (kc : ClassId) (c0 c1 : Int32) (kd : ClassId) (x0 x1 : Int32) (h0 : Heap) (n0 : Nat) (v : Option Value) (h : Heap) (L : List Loc) : Prop := v = some (.int 2) ∧ Fr n0 L ∧ Keep h0 h [a3] ∧ Arv Z h a3 kd .byte (2 : Int32) [(.int (own_b c0)), (.int (own_b c1))] (.int 0)
theorem d24_0 : decode kb6 0 = .ok (.iconst 0, 1) := by decide +kernel
theorem d24_1 : decode kb6 1 = .ok (.istore 5, 2) := by decide +kernel
theorem d24_3 : decode kb6 3 = .ok (.iload 5, 2) := by decide +kernel
theorem d24_5 : decode kb6 5 = .ok (.iload 4, 2) := by decide +kernel
theorem d24_7 : decode kb6 7 = .ok (.if_icmp .ge 37, 3) := by decide +kernel
theorem d24_10 : decode kb6 10 = .ok (.aload_n 0, 1) := by decide +kernel
theorem d24_11 : decode kb6 11 = .ok (.iload_n 1, 1) := by decide +kernel
theorem d24_12 : decode kb6 12 = .ok (.caload, 1) := by decide +kernel
theorem d24_13 : decode kb6 13 = .ok (.istore 6, 2) := by decide +kernel
theorem d24_15 : decode kb6 15 = .ok (.iload 6, 2) := by decide +kernel
theorem d24_17 : decode kb6 17 = .ok (.sipush 255, 3) := by decide +kernel
theorem d24_20 : decode kb6 20 = .ok (.if_icmp .le 6, 3) := by decide +kernel
theorem d24_26 : decode kb6 26 = .ok (.aload_n 2, 1) := by decide +kernel
theorem d24_27 : decode kb6 27 = .ok (.iload_n 3, 1) := by decide +kernel
theorem d24_28 : decode kb6 28 = .ok (.iload 6, 2) := by decide +kernel
theorem d24_30 : decode kb6 30 = .ok (.i2b, 1) := by decide +kernel
theorem d24_31 : decode kb6 31 = .ok (.bastore, 1) := by decide +kernel
theorem d24_32 : decode kb6 32 = .ok (.iinc 1 1, 3) := by decide +kernel
theorem d24_35 : decode kb6 35 = .ok (.iinc 3 1, 3) := by decide +kernel
theorem d24_38 : decode kb6 38 = .ok (.iinc 5 1, 3) := by decide +kernel
theorem d24_41 : decode kb6 41 = .ok (.goto (-38), 3) := by decide +kernel
theorem d24_44 : decode kb6 44 = .ok (.iload 4, 2) := by decide +kernel
theorem d24_46 : decode kb6 46 = .ok (.ireturn, 1) := by decide +kernel
theorem ef_24 (m : MethodId) (x0 : Addr) (x1 : Int32) (x2 : Addr) (x3 x4 : Int32) : entryFrame m #[(.ref x0), (.int x1), (.ref x2), (.int x3), (.int x4)] 7 = mkF m 0 #[rv x0, iv x1, rv x2, iv x3, iv x4, un, un] [] := by first | (simp [entryFrame, mkF, argsToLocals, Value.category]; done) | rfl
theorem rm24_L (l : Launch) (Z : State) (a0 : Array Value) (hw : HW a0 Z) (ws : List Jvm.Cond) (a1 : Addr) (p2 : Int32) (a3 : Addr) (p4 p5 : Int32) (kc : ClassId) (c0 c1 : Int32) (kd : ClassId) (x0 x1 : Int32) (h0 : Heap) (n0 : Nat) (Z0 : n0 ≤ h0.size) (V_a1 : Arv Z h0 a1 kc .char (2 : Int32) [(.int c0), (.int c1)] (.int 0)) (V_a3 : Arv Z h0 a3 kd .byte (2 : Int32) [(.int x0), (.int x1)] (.int 0)) (ge_a3 : n0 ≤ a3) (ne_a1_a3 : a1 ≠ a3) (hp2 : p2 = (0 : Int32)) (hp4 : p4 = (0 : Int32)) (hp5 : p5 = (2 : Int32)) (h0_ : ¬ (255 : Int32) < c0) (h1_ : ¬ (255 : Int32) < c1) :
    MF l Z h0 mn19 kb6 7 (some .int) ws ro0 #[(.ref a1), (.int p2), (.ref a3), (.int p4), (.int p5)] (Qrm24_L Z a1 p2 a3 p4 p5 kc c0 c1 kd x0 x1 h0 n0) := by
  refine own_go "java/lang/StringUTF16" rfl #[rv a1, iv p2, rv a3, iv p4, iv p5, un, un] (fun m => ef_24 m a1 p2 a3 p4 p5) (plainFor_of_name pn_2) ?_
  intro p e s m below meth c s₁ S0 Bd hx hby hml hown hZ X0 e0 pre0
  have N0 := Fr.nil n0
  subst hp2
  subst hp4
  subst hp5
  have pre2 : PQ p e below m S0 s₁ 31 #[rv a1, iv 0, rv a3, iv 0, iv 2, iv 0, iv c0] [(.int (c0.toInt8.toInt32)), (.int 0), (.ref a3)] := by
    intro t kt
    refine pre0 t ?_
    refine ow_iconst X0.here hx hby d24_0 (v := 0) rfl ?_
    refine ow_istore X0.here hx hby d24_1 (l' := #[rv a1, iv 0, rv a3, iv 0, iv 2, iv 0, un]) rfl ?_
    refine ow_iload X0.here hx hby d24_3 rfl ?_
    refine ow_iload X0.here hx hby d24_5 rfl ?_
    refine ow_icmpNo X0.here hx hby d24_7 (tlt (by decide)).2.1 ?_
    refine ow_aloadN X0.here hx hby d24_10 rfl rfl ?_
    refine ow_iloadN X0.here hx hby d24_11 rfl ?_
    obtain ⟨cl1, Ar1, -, S1, M1, H1, -⟩ := (id V_a1)
    have hin1 := inb_of (j := (0 : Int32)) S1 ⟨by decide, by decide⟩
    refine X0.caload hx (j := (0 : Int32)) (v := (.int c0)) (by rw [e0]; exact Ar1.1) (State.isArrayOf_alike hZ.alike Ar1.2.1) Ar1.2.2 hin1 (H1.at hin1 rfl) (g := (mkF m 12 #[rv a1, iv 0, rv a3, iv 0, iv 2, iv 0, un] [(.int 0), (.ref a1)])) rfl rfl (hb hby d24_12) _ ?_
    show SQ p e below m s₁ 13 #[rv a1, iv 0, rv a3, iv 0, iv 2, iv 0, un] [(.int c0)] _
    refine ow_istore X0.here hx hby d24_13 (l' := #[rv a1, iv 0, rv a3, iv 0, iv 2, iv 0, iv c0]) rfl ?_
    refine ow_iload X0.here hx hby d24_15 rfl ?_
    refine ow_sipush X0.here hx hby d24_17 (v := 255) rfl ?_
    refine ow_icmpYes X0.here hx hby d24_20 (flt h0_).2.2.2 (pc' := 26) (by decide) (by decide) ?_
    refine ow_aloadN X0.here hx hby d24_26 rfl rfl ?_
    refine ow_iloadN X0.here hx hby d24_27 rfl ?_
    refine ow_iload X0.here hx hby d24_28 rfl ?_
    refine XS.i2b X0.here hx rfl (hb hby d24_30) rfl ?_
    exact kt
  obtain ⟨cl3, Ar3, q3, S3, M3, H3, G3⟩ := (id V_a3)
  have hin3 := inb_of (j := (0 : Int32)) S3 ⟨by decide, by decide⟩
  obtain ⟨T3, h3, X3, e3, W3, st3⟩ := stB X0 hx hZ e0 Ar3 (j := (0 : Int32)) hin3 (g := (mkF m 31 #[rv a1, iv 0, rv a3, iv 0, iv 2, iv 0, iv c0] [(.int (c0.toInt8.toInt32)), (.int 0), (.ref a3)])) rfl rfl (hb hby d24_31)
  have V_a3_3 := Arv.set Ar3 q3 S3 M3 H3 G3 (fits_nar_byte _) W3 0 rfl (Nat.le_of_ble_eq_true rfl)
  have N3 := Fr.snoc X3 N0 ge_a3
  have K3 := (Keep.refl h0 [a3]).wr W3 (Or.inl (List.mem_of_getElem? (i := 0) rfl))
  have Z3 := Nat.le_trans Z0 (Keep.of_wr W3).1
  have V_a1_4 := V_a1.other W3 ne_a1_a3
  have V_a3_3' : Arv Z h3 a3 kd .byte (2 : Int32) [(.int (nar .byte (c0.toInt8.toInt32))), (.int x1)] (.int 0) := V_a3_3
  have pre3 : PQ p e below m S0 T3 32 #[rv a1, iv 0, rv a3, iv 0, iv 2, iv 0, iv c0] [] := fun t kt => pre2 t (st3 _ kt)
  have pre7 : PQ p e below m S0 T3 31 #[rv a1, iv 1, rv a3, iv 1, iv 2, iv 1, iv c1] [(.int (c1.toInt8.toInt32)), (.int 1), (.ref a3)] := by
    intro t kt
    refine pre3 t ?_
    refine ow_iinc X3.here hx hby d24_32 rfl (l' := #[rv a1, iv 1, rv a3, iv 0, iv 2, iv 0, iv c0]) rfl ?_
    show SQ p e below m T3 35 #[rv a1, iv 1, rv a3, iv 0, iv 2, iv 0, iv c0] [] _
    refine ow_iinc X3.here hx hby d24_35 rfl (l' := #[rv a1, iv 1, rv a3, iv 1, iv 2, iv 0, iv c0]) rfl ?_
    show SQ p e below m T3 38 #[rv a1, iv 1, rv a3, iv 1, iv 2, iv 0, iv c0] [] _
    refine ow_iinc X3.here hx hby d24_38 rfl (l' := #[rv a1, iv 1, rv a3, iv 1, iv 2, iv 1, iv c0]) rfl ?_
    show SQ p e below m T3 41 #[rv a1, iv 1, rv a3, iv 1, iv 2, iv 1, iv c0] [] _
    refine ow_goto X3.here hx hby d24_41 (pc' := 3) (by decide) (by decide) ?_
    refine ow_iload X3.here hx hby d24_3 rfl ?_
    refine ow_iload X3.here hx hby d24_5 rfl ?_
    refine ow_icmpNo X3.here hx hby d24_7 (tlt (by decide)).2.1 ?_
    refine ow_aloadN X3.here hx hby d24_10 rfl rfl ?_
    refine ow_iloadN X3.here hx hby d24_11 rfl ?_
    obtain ⟨cl6, Ar6, -, S6, M6, H6, -⟩ := (id V_a1_4)
    have hin6 := inb_of (j := (1 : Int32)) S6 ⟨by decide, by decide⟩
    refine X3.caload hx (j := (1 : Int32)) (v := (.int c1)) (by rw [e3]; exact Ar6.1) (State.isArrayOf_alike hZ.alike Ar6.2.1) Ar6.2.2 hin6 (H6.at hin6 rfl) (g := (mkF m 12 #[rv a1, iv 1, rv a3, iv 1, iv 2, iv 1, iv c0] [(.int 1), (.ref a1)])) rfl rfl (hb hby d24_12) _ ?_
    show SQ p e below m T3 13 #[rv a1, iv 1, rv a3, iv 1, iv 2, iv 1, iv c0] [(.int c1)] _
    refine ow_istore X3.here hx hby d24_13 (l' := #[rv a1, iv 1, rv a3, iv 1, iv 2, iv 1, iv c1]) rfl ?_
    refine ow_iload X3.here hx hby d24_15 rfl ?_
    refine ow_sipush X3.here hx hby d24_17 (v := 255) rfl ?_
    refine ow_icmpYes X3.here hx hby d24_20 (flt h1_).2.2.2 (pc' := 26) (by decide) (by decide) ?_
    refine ow_aloadN X3.here hx hby d24_26 rfl rfl ?_
    refine ow_iloadN X3.here hx hby d24_27 rfl ?_
    refine ow_iload X3.here hx hby d24_28 rfl ?_
    refine XS.i2b X3.here hx rfl (hb hby d24_30) rfl ?_
    exact kt
  obtain ⟨cl8, Ar8, q8, S8, M8, H8, G8⟩ := (id V_a3_3')
  have hin8 := inb_of (j := (1 : Int32)) S8 ⟨by decide, by decide⟩
  obtain ⟨T8, h8, X8, e8, W8, st8⟩ := stB X3 hx hZ e3 Ar8 (j := (1 : Int32)) hin8 (g := (mkF m 31 #[rv a1, iv 1, rv a3, iv 1, iv 2, iv 1, iv c1] [(.int (c1.toInt8.toInt32)), (.int 1), (.ref a3)])) rfl rfl (hb hby d24_31)
  have V_a3_8 := Arv.set Ar8 q8 S8 M8 H8 G8 (fits_nar_byte _) W8 1 rfl (Nat.le_of_ble_eq_true rfl)
  have N8 := Fr.snoc X8 N3 ge_a3
  have K8 := K3.wr W8 (Or.inl (List.mem_of_getElem? (i := 0) rfl))
  have Z8 := Nat.le_trans Z3 (Keep.of_wr W8).1
  have V_a1_9 := V_a1_4.other W8 ne_a1_a3
  have V_a3_8' : Arv Z h8 a3 kd .byte (2 : Int32) [(.int (nar .byte (c0.toInt8.toInt32))), (.int (nar .byte (c1.toInt8.toInt32)))] (.int 0) := V_a3_8
  have pre8 : PQ p e below m S0 T8 32 #[rv a1, iv 1, rv a3, iv 1, iv 2, iv 1, iv c1] [] := fun t kt => pre7 t (st8 _ kt)
  have pre11 : PQ p e below m S0 T8 46 #[rv a1, iv 2, rv a3, iv 2, iv 2, iv 2, iv c1] [(.int 2)] := by
    intro t kt
    refine pre8 t ?_
    refine ow_iinc X8.here hx hby d24_32 rfl (l' := #[rv a1, iv 2, rv a3, iv 1, iv 2, iv 1, iv c1]) rfl ?_
    show SQ p e below m T8 35 #[rv a1, iv 2, rv a3, iv 1, iv 2, iv 1, iv c1] [] _
    refine ow_iinc X8.here hx hby d24_35 rfl (l' := #[rv a1, iv 2, rv a3, iv 2, iv 2, iv 1, iv c1]) rfl ?_
    show SQ p e below m T8 38 #[rv a1, iv 2, rv a3, iv 2, iv 2, iv 1, iv c1] [] _
    refine ow_iinc X8.here hx hby d24_38 rfl (l' := #[rv a1, iv 2, rv a3, iv 2, iv 2, iv 2, iv c1]) rfl ?_
    show SQ p e below m T8 41 #[rv a1, iv 2, rv a3, iv 2, iv 2, iv 2, iv c1] [] _
    refine ow_goto X8.here hx hby d24_41 (pc' := 3) (by decide) (by decide) ?_
    refine ow_iload X8.here hx hby d24_3 rfl ?_
    refine ow_iload X8.here hx hby d24_5 rfl ?_
    refine ow_icmpYes X8.here hx hby d24_7 (flt (by decide)).2.1 (pc' := 44) (by decide) (by decide) ?_
    refine ow_iload X8.here hx hby d24_44 rfl ?_
    exact kt
  obtain ⟨fs, hr, hu, hd, hW, hme⟩ := X8.leave (v := some (.int 2)) (fun h => by rw [Bd.returns] at h; cases h)
  refine ⟨_, _, pre11 _ ?_, hu, hd, _, _, rfl, ?_, ⟨_, rfl⟩, hW, hme.mono (by decide) (by decide)⟩
  · show SQ p e below m T8 46 #[rv a1, iv 2, rv a3, iv 2, iv 2, iv 2, iv c1] [(.int 2)] _
    exact retI X8 hx Bd.returns (hb hby d24_46) hr
  · show Qrm24_L Z a1 (0 : Int32) a3 (0 : Int32) (2 : Int32) kc c0 c1 kd x0 x1 h0 n0 _ T8.heap _
    rw [e8]
    exact ⟨rfl, N8, K8, V_a3_8'⟩
def Qrm24_U0 (Z : State) (a1 : Addr) (p2 : Int32) (a3 : Addr) (p4 p5 : Int32) (kc : ClassId) (c0 c1 : Int32) (kd : ClassId) (x0 x1 : Int32) (h0 : Heap) (n0 : Nat) (v : Option Value) (h : Heap) (L : List Loc) : Prop := v = some (.int 0) ∧ Fr n0 L ∧ Keep h0 h [a3] ∧ Arv Z h a3 kd .byte (2 : Int32) [(.int x0), (.int x1)] (.int 0)
theorem d24_23 : decode kb6 23 = .ok (.iload 5, 2) := by decide +kernel
theorem d24_25 : decode kb6 25 = .ok (.ireturn, 1) := by decide +kernel

theorem rm24_U0 (l : Launch) (Z : State) (a0 : Array Value) (hw : HW a0 Z) (ws : List Jvm.Cond) (a1 : Addr) (p2 : Int32) (a3 : Addr) (p4 p5 : Int32) (kc : ClassId) (c0 c1 : Int32) (kd : ClassId) (x0 x1 : Int32) (h0 : Heap) (n0 : Nat) (Z0 : n0 ≤ h0.size) (V_a1 : Arv Z h0 a1 kc .char (2 : Int32) [(.int c0), (.int c1)] (.int 0)) (V_a3 : Arv Z h0 a3 kd .byte (2 : Int32) [(.int x0), (.int x1)] (.int 0)) (ge_a3 : n0 ≤ a3) (ne_a1_a3 : a1 ≠ a3) (hp2 : p2 = (0 : Int32)) (hp4 : p4 = (0 : Int32)) (hp5 : p5 = (2 : Int32)) (h0_ : (255 : Int32) < c0) :
    MF l Z h0 mn19 kb6 7 (some .int) ws ro0 #[(.ref a1), (.int p2), (.ref a3), (.int p4), (.int p5)] (Qrm24_U0 Z a1 p2 a3 p4 p5 kc c0 c1 kd x0 x1 h0 n0) := by
  refine own_go "java/lang/StringUTF16" rfl #[rv a1, iv p2, rv a3, iv p4, iv p5, un, un] (fun m => ef_24 m a1 p2 a3 p4 p5) (plainFor_of_name pn_2) ?_
  intro p e s m below meth c s₁ S0 Bd hx hby hml hown hZ X0 e0 pre0
  have N0 := Fr.nil n0
  subst hp2
  subst hp4
  subst hp5
  have pre2 : PQ p e below m S0 s₁ 25 #[rv a1, iv 0, rv a3, iv 0, iv 2, iv 0, iv c0] [(.int 0)] := by
    intro t kt
    refine pre0 t ?_
    refine ow_iconst X0.here hx hby d24_0 (v := 0) rfl ?_
    refine ow_istore X0.here hx hby d24_1 (l' := #[rv a1, iv 0, rv a3, iv 0, iv 2, iv 0, un]) rfl ?_
    refine ow_iload X0.here hx hby d24_3 rfl ?_
    refine ow_iload X0.here hx hby d24_5 rfl ?_
    refine ow_icmpNo X0.here hx hby d24_7 (tlt (by decide)).2.1 ?_
    refine ow_aloadN X0.here hx hby d24_10 rfl rfl ?_
    refine ow_iloadN X0.here hx hby d24_11 rfl ?_
    obtain ⟨cl1, Ar1, -, S1, M1, H1, -⟩ := (id V_a1)
    have hin1 := inb_of (j := (0 : Int32)) S1 ⟨by decide, by decide⟩
    refine X0.caload hx (j := (0 : Int32)) (v := (.int c0)) (by rw [e0]; exact Ar1.1) (State.isArrayOf_alike hZ.alike Ar1.2.1) Ar1.2.2 hin1 (H1.at hin1 rfl) (g := (mkF m 12 #[rv a1, iv 0, rv a3, iv 0, iv 2, iv 0, un] [(.int 0), (.ref a1)])) rfl rfl (hb hby d24_12) _ ?_
    show SQ p e below m s₁ 13 #[rv a1, iv 0, rv a3, iv 0, iv 2, iv 0, un] [(.int c0)] _
    refine ow_istore X0.here hx hby d24_13 (l' := #[rv a1, iv 0, rv a3, iv 0, iv 2, iv 0, iv c0]) rfl ?_
    refine ow_iload X0.here hx hby d24_15 rfl ?_
    refine ow_sipush X0.here hx hby d24_17 (v := 255) rfl ?_
    refine ow_icmpNo X0.here hx hby d24_20 (tlt h0_).2.2.2 ?_
    refine ow_iload X0.here hx hby d24_23 rfl ?_
    exact kt
  obtain ⟨fs, hr, hu, hd, hW, hme⟩ := X0.leave (v := some (.int 0)) (fun h => by rw [Bd.returns] at h; cases h)
  refine ⟨_, _, pre2 _ ?_, hu, hd, _, _, rfl, ?_, ⟨_, rfl⟩, hW, hme.mono (by decide) (by decide)⟩
  · show SQ p e below m s₁ 25 #[rv a1, iv 0, rv a3, iv 0, iv 2, iv 0, iv c0] [(.int 0)] _
    exact retI X0 hx Bd.returns (hb hby d24_25) hr
  · show Qrm24_U0 Z a1 (0 : Int32) a3 (0 : Int32) (2 : Int32) kc c0 c1 kd x0 x1 h0 n0 _ s₁.heap _
    rw [e0]
    exact ⟨rfl, N0, (Keep.refl h0 [a3]), V_a3⟩
def Qrm24_U1 (Z : State) (a1 : Addr) (p2 : Int32) (a3 : Addr) (p4 p5 : Int32) (kc : ClassId) (c0 c1 : Int32) (kd : ClassId) (x0 x1 : Int32) (h0 : Heap) (n0 : Nat) (v : Option Value) (h : Heap) (L : List Loc) : Prop := v = some (.int 1) ∧ Fr n0 L ∧ Keep h0 h [a3] ∧ Arv Z h a3 kd .byte (2 : Int32) [(.int (own_b c0)), (.int x1)] (.int 0)

theorem rm24_U1 (l : Launch) (Z : State) (a0 : Array Value) (hw : HW a0 Z) (ws : List Jvm.Cond) (a1 : Addr) (p2 : Int32) (a3 : Addr) (p4 p5 : Int32) (kc : ClassId) (c0 c1 : Int32) (kd : ClassId) (x0 x1 : Int32) (h0 : Heap) (n0 : Nat) (Z0 : n0 ≤ h0.size) (V_a1 : Arv Z h0 a1 kc .char (2 : Int32) [(.int c0), (.int c1)] (.int 0)) (V_a3 : Arv Z h0 a3 kd .byte (2 : Int32) [(.int x0), (.int x1)] (.int 0)) (ge_a3 : n0 ≤ a3) (ne_a1_a3 : a1 ≠ a3) (hp2 : p2 = (0 : Int32)) (hp4 : p4 = (0 : Int32)) (hp5 : p5 = (2 : Int32)) (h0_ : ¬ (255 : Int32) < c0) (h1_ : (255 : Int32) < c1) :
    MF l Z h0 mn19 kb6 7 (some .int) ws ro0 #[(.ref a1), (.int p2), (.ref a3), (.int p4), (.int p5)] (Qrm24_U1 Z a1 p2 a3 p4 p5 kc c0 c1 kd x0 x1 h0 n0) := by
  refine own_go "java/lang/StringUTF16" rfl #[rv a1, iv p2, rv a3, iv p4, iv p5, un, un] (fun m => ef_24 m a1 p2 a3 p4 p5) (plainFor_of_name pn_2) ?_
  intro p e s m below meth c s₁ S0 Bd hx hby hml hown hZ X0 e0 pre0
  have N0 := Fr.nil n0
  subst hp2
  subst hp4
  subst hp5
  have pre2 : PQ p e below m S0 s₁ 31 #[rv a1, iv 0, rv a3, iv 0, iv 2, iv 0, iv c0] [(.int (c0.toInt8.toInt32)), (.int 0), (.ref a3)] := by
    intro t kt
    refine pre0 t ?_
    refine ow_iconst X0.here hx hby d24_0 (v := 0) rfl ?_
    refine ow_istore X0.here hx hby d24_1 (l' := #[rv a1, iv 0, rv a3, iv 0, iv 2, iv 0, un]) rfl ?_
    refine ow_iload X0.here hx hby d24_3 rfl ?_
    refine ow_iload X0.here hx hby d24_5 rfl ?_
    refine ow_icmpNo X0.here hx hby d24_7 (tlt (by decide)).2.1 ?_
    refine ow_aloadN X0.here hx hby d24_10 rfl rfl ?_
    refine ow_iloadN X0.here hx hby d24_11 rfl ?_
    obtain ⟨cl1, Ar1, -, S1, M1, H1, -⟩ := (id V_a1)
    have hin1 := inb_of (j := (0 : Int32)) S1 ⟨by decide, by decide⟩
    refine X0.caload hx (j := (0 : Int32)) (v := (.int c0)) (by rw [e0]; exact Ar1.1) (State.isArrayOf_alike hZ.alike Ar1.2.1) Ar1.2.2 hin1 (H1.at hin1 rfl) (g := (mkF m 12 #[rv a1, iv 0, rv a3, iv 0, iv 2, iv 0, un] [(.int 0), (.ref a1)])) rfl rfl (hb hby d24_12) _ ?_
    show SQ p e below m s₁ 13 #[rv a1, iv 0, rv a3, iv 0, iv 2, iv 0, un] [(.int c0)] _
    refine ow_istore X0.here hx hby d24_13 (l' := #[rv a1, iv 0, rv a3, iv 0, iv 2, iv 0, iv c0]) rfl ?_
    refine ow_iload X0.here hx hby d24_15 rfl ?_
    refine ow_sipush X0.here hx hby d24_17 (v := 255) rfl ?_
    refine ow_icmpYes X0.here hx hby d24_20 (flt h0_).2.2.2 (pc' := 26) (by decide) (by decide) ?_
    refine ow_aloadN X0.here hx hby d24_26 rfl rfl ?_
    refine ow_iloadN X0.here hx hby d24_27 rfl ?_
    refine ow_iload X0.here hx hby d24_28 rfl ?_
    refine XS.i2b X0.here hx rfl (hb hby d24_30) rfl ?_
    exact kt
  obtain ⟨cl3, Ar3, q3, S3, M3, H3, G3⟩ := (id V_a3)
  have hin3 := inb_of (j := (0 : Int32)) S3 ⟨by decide, by decide⟩
  obtain ⟨T3, h3, X3, e3, W3, st3⟩ := stB X0 hx hZ e0 Ar3 (j := (0 : Int32)) hin3 (g := (mkF m 31 #[rv a1, iv 0, rv a3, iv 0, iv 2, iv 0, iv c0] [(.int (c0.toInt8.toInt32)), (.int 0), (.ref a3)])) rfl rfl (hb hby d24_31)
  have V_a3_3 := Arv.set Ar3 q3 S3 M3 H3 G3 (fits_nar_byte _) W3 0 rfl (Nat.le_of_ble_eq_true rfl)
  have N3 := Fr.snoc X3 N0 ge_a3
  have K3 := (Keep.refl h0 [a3]).wr W3 (Or.inl (List.mem_of_getElem? (i := 0) rfl))
  have Z3 := Nat.le_trans Z0 (Keep.of_wr W3).1
  have V_a1_4 := V_a1.other W3 ne_a1_a3
  have V_a3_3' : Arv Z h3 a3 kd .byte (2 : Int32) [(.int (nar .byte (c0.toInt8.toInt32))), (.int x1)] (.int 0) := V_a3_3
  have pre3 : PQ p e below m S0 T3 32 #[rv a1, iv 0, rv a3, iv 0, iv 2, iv 0, iv c0] [] := fun t kt => pre2 t (st3 _ kt)
  have pre7 : PQ p e below m S0 T3 25 #[rv a1, iv 1, rv a3, iv 1, iv 2, iv 1, iv c1] [(.int 1)] := by
    intro t kt
    refine pre3 t ?_
    refine ow_iinc X3.here hx hby d24_32 rfl (l' := #[rv a1, iv 1, rv a3, iv 0, iv 2, iv 0, iv c0]) rfl ?_
    show SQ p e below m T3 35 #[rv a1, iv 1, rv a3, iv 0, iv 2, iv 0, iv c0] [] _
    refine ow_iinc X3.here hx hby d24_35 rfl (l' := #[rv a1, iv 1, rv a3, iv 1, iv 2, iv 0, iv c0]) rfl ?_
    show SQ p e below m T3 38 #[rv a1, iv 1, rv a3, iv 1, iv 2, iv 0, iv c0] [] _
    refine ow_iinc X3.here hx hby d24_38 rfl (l' := #[rv a1, iv 1, rv a3, iv 1, iv 2, iv 1, iv c0]) rfl ?_
    show SQ p e below m T3 41 #[rv a1, iv 1, rv a3, iv 1, iv 2, iv 1, iv c0] [] _
    refine ow_goto X3.here hx hby d24_41 (pc' := 3) (by decide) (by decide) ?_
    refine ow_iload X3.here hx hby d24_3 rfl ?_
    refine ow_iload X3.here hx hby d24_5 rfl ?_
    refine ow_icmpNo X3.here hx hby d24_7 (tlt (by decide)).2.1 ?_
    refine ow_aloadN X3.here hx hby d24_10 rfl rfl ?_
    refine ow_iloadN X3.here hx hby d24_11 rfl ?_
    obtain ⟨cl6, Ar6, -, S6, M6, H6, -⟩ := (id V_a1_4)
    have hin6 := inb_of (j := (1 : Int32)) S6 ⟨by decide, by decide⟩
    refine X3.caload hx (j := (1 : Int32)) (v := (.int c1)) (by rw [e3]; exact Ar6.1) (State.isArrayOf_alike hZ.alike Ar6.2.1) Ar6.2.2 hin6 (H6.at hin6 rfl) (g := (mkF m 12 #[rv a1, iv 1, rv a3, iv 1, iv 2, iv 1, iv c0] [(.int 1), (.ref a1)])) rfl rfl (hb hby d24_12) _ ?_
    show SQ p e below m T3 13 #[rv a1, iv 1, rv a3, iv 1, iv 2, iv 1, iv c0] [(.int c1)] _
    refine ow_istore X3.here hx hby d24_13 (l' := #[rv a1, iv 1, rv a3, iv 1, iv 2, iv 1, iv c1]) rfl ?_
    refine ow_iload X3.here hx hby d24_15 rfl ?_
    refine ow_sipush X3.here hx hby d24_17 (v := 255) rfl ?_
    refine ow_icmpNo X3.here hx hby d24_20 (tlt h1_).2.2.2 ?_
    refine ow_iload X3.here hx hby d24_23 rfl ?_
    exact kt
  obtain ⟨fs, hr, hu, hd, hW, hme⟩ := X3.leave (v := some (.int 1)) (fun h => by rw [Bd.returns] at h; cases h)
  refine ⟨_, _, pre7 _ ?_, hu, hd, _, _, rfl, ?_, ⟨_, rfl⟩, hW, hme.mono (by decide) (by decide)⟩
  · show SQ p e below m T3 25 #[rv a1, iv 1, rv a3, iv 1, iv 2, iv 1, iv c1] [(.int 1)] _
    exact retI X3 hx Bd.returns (hb hby d24_25) hr
  · show Qrm24_U1 Z a1 (0 : Int32) a3 (0 : Int32) (2 : Int32) kc c0 c1 kd x0 x1 h0 n0 _ T3.heap _
    rw [e3]
    exact ⟨rfl, N3, K3, V_a3_3'⟩
def Qrm27 (Z : State) (p1 : Int32) (h0 : Heap) (n0 : Nat) (v : Option Value) (h : Heap) (L : List Loc) : Prop := v = some (.int 4) ∧ Fr n0 L ∧ h = h0
theorem d27_0 : decode kb29 0 = .ok (.iload_n 0, 1) := by decide +kernel
theorem d27_1 : decode kb29 1 = .ok (.ifCond .ge 11, 3) := by decide +kernel
theorem d27_12 : decode kb29 12 = .ok (.iload_n 0, 1) := by decide +kernel
theorem d27_13 : decode kb29 13 = .ok (.ldc 20, 2) := by decide +kernel
theorem d27_15 : decode kb29 15 = .ok (.if_icmp .lt 40, 3) := by decide +kernel
theorem d27_55 : decode kb29 55 = .ok (.iload_n 0, 1) := by decide +kernel
theorem d27_56 : decode kb29 56 = .ok (.iconst 1, 1) := by decide +kernel
theorem d27_57 : decode kb29 57 = .ok (.ishl, 1) := by decide +kernel
theorem d27_58 : decode kb29 58 = .ok (.ireturn, 1) := by decide +kernel
theorem ef_27 (m : MethodId) (x0 : Int32) : entryFrame m #[(.int x0)] 1 = mkF m 0 #[iv x0] [] := by first | (simp [entryFrame, mkF, argsToLocals, Value.category]; done) | rfl
theorem rm27 (l : Launch) (Z : State) (a0 : Array Value) (hw : HW a0 Z) (ws : List Jvm.Cond) (p1 : Int32) (h0 : Heap) (n0 : Nat) (Z0 : n0 ≤ h0.size) (hp1 : p1 = (2 : Int32)) :
    MF l Z h0 (⟨"java/lang/StringUTF16", "newBytesLength", "(I)I"⟩ : MethodName) kb29 1 (some .int) ws ro0 #[(.int p1)] (Qrm27 Z p1 h0 n0) := by
  refine own_go "java/lang/StringUTF16" rfl #[iv p1] (fun m => ef_27 m p1) (plainFor_of_name pn_2) ?_
  intro p e s m below meth c s₁ S0 Bd hx hby hml hown hZ X0 e0 pre0
  have N0 := Fr.nil n0
  subst hp1
  have pre1 : PQ p e below m S0 s₁ 58 #[iv 2] [(.int 4)] := by
    intro t kt
    refine pre0 t ?_
    refine ow_iloadN X0.here hx hby d27_0 rfl ?_
    refine ow_ifYes X0.here hx hby d27_1 ((if0 _ _).trans (flt (by decide)).2.1) (pc' := 12) (by decide) (by decide) ?_
    refine ow_iloadN X0.here hx hby d27_12 rfl ?_
    refine X0.ldcInt hx hown (mw hZ hw 128 rfl) (g := (mkF m 13 #[iv 2] [(.int 2)])) rfl (hb hby d27_13) _ ?_
    show SQ p e below m s₁ 15 #[iv 2] [(.int 1073741823), (.int 2)] _
    refine ow_icmpYes X0.here hx hby d27_15 (tlt (by decide)).1 (pc' := 55) (by decide) (by decide) ?_
    refine ow_iloadN X0.here hx hby d27_55 rfl ?_
    refine ow_iconst X0.here hx hby d27_56 (v := 1) rfl ?_
    refine XS.ishl X0.here hx rfl (hb hby d27_57) rfl ?_
    exact kt
  obtain ⟨fs, hr, hu, hd, hW, hme⟩ := X0.leave (v := some (.int 4)) (fun h => by rw [Bd.returns] at h; cases h)
  refine ⟨_, _, pre1 _ ?_, hu, hd, _, _, rfl, ?_, ⟨_, rfl⟩, hW, hme.mono (by decide) (by decide)⟩
  · show SQ p e below m s₁ 58 #[iv 2] [(.int 4)] _
    exact retI X0 hx Bd.returns (hb hby d27_58) hr
  · show Qrm27 Z (2 : Int32) h0 n0 _ s₁.heap _
    rw [e0]
    exact ⟨rfl, N0, rfl⟩
def Qrm26 (Z : State) (p1 : Int32) (h0 : Heap) (n0 : Nat) (v : Option Value) (h : Heap) (L : List Loc) : Prop := ∃ (az : Addr) (kz : ClassId), v = some (.ref az) ∧ Fr n0 L ∧ Keep h0 h [] ∧ Arv Z h az kz .byte (4 : Int32) [(.int 0), (.int 0), (.int 0), (.int 0)] (.int 0) ∧ n0 ≤ az ∧ h0.size ≤ az
theorem d26_0 : decode kb43 0 = .ok (.iload_n 0, 1) := by decide +kernel
theorem d26_1 : decode kb43 1 = .ok (.invokestatic 11, 3) := by decide +kernel
theorem d26_4 : decode kb43 4 = .ok (.newarray .byte, 2) := by decide +kernel
theorem d26_6 : decode kb43 6 = .ok (.areturn, 1) := by decide +kernel
theorem ef_26 (m : MethodId) (x0 : Int32) : entryFrame m #[(.int x0)] 1 = mkF m 0 #[iv x0] [] := by first | (simp [entryFrame, mkF, argsToLocals, Value.category]; done) | rfl
theorem rm26 (l : Launch) (Z : State) (a0 : Array Value) (hw : HW a0 Z) (ws : List Jvm.Cond) (p1 : Int32) (h0 : Heap) (n0 : Nat) (Z0 : n0 ≤ h0.size) (hp1 : p1 = (2 : Int32)) :
    MF l Z h0 (⟨"java/lang/StringUTF16", "newBytesFor", "(I)[B"⟩ : MethodName) kb43 1 (some (.array .byte)) ws ({ frames := 1, cells := 1, slots := 4, locals := 12 } : Room) #[(.int p1)] (Qrm26 Z p1 h0 n0) := by
  refine own_go "java/lang/StringUTF16" rfl #[iv p1] (fun m => ef_26 m p1) (plainFor_of_name pn_2) ?_
  intro p e s m below meth c s₁ S0 Bd hx hby hml hown hZ X0 e0 pre0
  have N0 := Fr.nil n0
  subst hp1
  have pre1 : PQ p e below m S0 s₁ 1 #[iv 2] [(.int 2)] := by
    intro t kt
    refine pre0 t ?_
    refine ow_iloadN X0.here hx hby d26_0 rfl ?_
    exact kt
  obtain ⟨_, _, ⟨T2, L2, k2, n2⟩, -, X2, ⟨Lc2, hQ2, l2, y2, z2⟩, st2⟩ := Jvm.LawKit.callS X0 hx (y := (⟨"java/lang/StringUTF16", "newBytesLength", "(I)I"⟩ : MethodName)) hown (mw hZ hw 125 rfl) (mw hZ hw 126 rfl) (mw hZ hw 114 rfl) (mw hZ hw 127 rfl) (by decide) (backOf (W := 0) (rm27 l Z a0 hw [] (2 : Int32) h0 n0 Z0 (rfl)) hZ (wi hw 127 rfl) (wi hw 114 rfl) (by decide) (by decide)) (g := (mkF m 1 #[iv 2] [(.int 2)])) rfl (by rw [hml]; rfl) (argsL := [(.int 2)]) (rest := []) (lenOf pd_18 rfl) rfl (by show 2 * 0 + _ ≤ _; exact Nat.le_of_eq rfl) (hb hby d26_1) (fun _ _ => ⟨rfl, e0, (Nat.zero_le _), (Nat.zero_le _)⟩)
  dsimp only [Pt.U, Pt.locs, Pt.cells, Pt.slots] at X2 l2 y2 z2 st2 hQ2
  subst l2 y2 z2
  obtain ⟨rfl, N2q, e2⟩ := hQ2
  have N2 := Fr.app N0 N2q
  have pre2 : PQ p e below m S0 T2 4 #[iv 2] [(.int 4)] := fun t kt => pre1 t (st2 _ kt)
  obtain ⟨T3, h3, k3, X3, e3, E3, A3, st3⟩ := newP X2 hx hZ (wi hw 7 rfl) e2 (g := (mkF m 4 #[iv 2] [(.int 4)])) rfl (hb hby d26_4) rfl (by decide) (cap := 4) (by decide) (by decide) (by decide) (by decide)
  obtain ⟨b3, g3⟩ : ∃ z, z = h0.size := ⟨_, rfl⟩
  have g_b3 : n0 ≤ b3 := Nat.le_trans Z0 (Nat.le_of_eq g3.symm)
  have sz_b3 : h0.size ≤ b3 := Nat.le_trans (Keep.refl h0 []).1 (Nat.le_of_eq g3.symm)
  rw [← g3] at A3 st3
  have K3 := (Keep.refl h0 []).ext E3
  have Z3 := Nat.le_trans Z0 E3.1
  have V_b3 : Arv Z h3 b3 k3 .byte (4 : Int32) [(.int 0), (.int 0), (.int 0), (.int 0)] (.int 0) := (Arv.new A3 (by decide)).pad (pad_rep [] (.int 0) 4)
  have pre3 : PQ p e below m S0 T3 6 #[iv 2] [(.ref b3)] := fun t kt => pre2 t (st3 _ kt)
  obtain ⟨fs, hr, hu, hd, hW, hme⟩ := X3.leave (v := some (.ref b3)) (fun h => by rw [Bd.returns] at h; cases h)
  refine ⟨_, _, pre3 _ ?_, hu, hd, _, _, rfl, ?_, ⟨_, rfl⟩, hW, hme.mono (by decide) (by decide)⟩
  · show SQ p e below m T3 6 #[iv 2] [(.ref b3)] _
    jvm_step X3.here [X3.here.top, hx, (hb hby d26_6), X3.method', Bd.returns, Value.isRef, FieldType.isReference]
    first | (intro acts; rw [hr _ acts rfl rfl rfl]) | rw [hr _ _ rfl rfl rfl]
    exact Steps.refl _
  · show Qrm26 Z (2 : Int32) h0 n0 _ T3.heap _
    rw [e3]
    exact ⟨b3, k3, rfl, N2, K3, V_b3, g_b3, sz_b3⟩
def Qrm25 (Z : State) (a1 : Addr) (p2 p3 : Int32) (kc : ClassId) (c0 c1 : Int32) (h0 : Heap) (n0 : Nat) (v : Option Value) (h : Heap) (L : List Loc) : Prop := ∃ (az : Addr) (kz : ClassId), v = some (.ref az) ∧ Fr n0 L ∧ Keep h0 h [] ∧ Arv Z h az kz .byte (4 : Int32) [(.int (own_lo c0)), (.int (own_hi c0)), (.int (own_lo c1)), (.int (own_hi c1))] (.int 0) ∧ n0 ≤ az ∧ h0.size ≤ az
theorem d25_0 : decode kb16 0 = .ok (.iload_n 2, 1) := by decide +kernel
theorem d25_1 : decode kb16 1 = .ok (.invokestatic 107, 3) := by decide +kernel
theorem d25_4 : decode kb16 4 = .ok (.astore_n 3, 1) := by decide +kernel
theorem d25_5 : decode kb16 5 = .ok (.iconst 0, 1) := by decide +kernel
theorem d25_6 : decode kb16 6 = .ok (.istore 4, 2) := by decide +kernel
theorem d25_8 : decode kb16 8 = .ok (.iload 4, 2) := by decide +kernel
theorem d25_10 : decode kb16 10 = .ok (.iload_n 2, 1) := by decide +kernel
theorem d25_11 : decode kb16 11 = .ok (.if_icmp .ge 21, 3) := by decide +kernel
theorem d25_14 : decode kb16 14 = .ok (.aload_n 3, 1) := by decide +kernel
theorem d25_15 : decode kb16 15 = .ok (.iload 4, 2) := by decide +kernel
theorem d25_17 : decode kb16 17 = .ok (.aload_n 0, 1) := by decide +kernel
theorem d25_18 : decode kb16 18 = .ok (.iload_n 1, 1) := by decide +kernel
theorem d25_19 : decode kb16 19 = .ok (.caload, 1) := by decide +kernel
theorem d25_20 : decode kb16 20 = .ok (.invokestatic 111, 3) := by decide +kernel
theorem d25_23 : decode kb16 23 = .ok (.iinc 1 1, 3) := by decide +kernel
theorem d25_26 : decode kb16 26 = .ok (.iinc 4 1, 3) := by decide +kernel
theorem d25_29 : decode kb16 29 = .ok (.goto (-21), 3) := by decide +kernel
theorem d25_32 : decode kb16 32 = .ok (.aload_n 3, 1) := by decide +kernel
theorem d25_33 : decode kb16 33 = .ok (.areturn, 1) := by decide +kernel
theorem ef_25 (m : MethodId) (x0 : Addr) (x1 x2 : Int32) : entryFrame m #[(.ref x0), (.int x1), (.int x2)] 5 = mkF m 0 #[rv x0, iv x1, iv x2, un, un] [] := by first | (simp [entryFrame, mkF, argsToLocals, Value.category]; done) | rfl
theorem rm25 (l : Launch) (Z : State) (a0 : Array Value) (hw : HW a0 Z) (ws : List Jvm.Cond) (a1 : Addr) (p2 p3 : Int32) (kc : ClassId) (c0 c1 : Int32) (h0 : Heap) (n0 : Nat) (Z0 : n0 ≤ h0.size) (V_a1 : Arv Z h0 a1 kc .char (2 : Int32) [(.int c0), (.int c1)] (.int 0)) (sA : sta0 Z h0 (.int 1)) (sH : sta1 Z h0 (.int 0)) (sL : sta2 Z h0 (.int 8)) (hp2 : p2 = (0 : Int32)) (hp3 : p3 = (2 : Int32)) :
    MF l Z h0 mn38 kb16 5 (some (.array .byte)) ws ({ frames := 2, cells := 1, slots := 4, locals := 24 } : Room) #[(.ref a1), (.int p2), (.int p3)] (Qrm25 Z a1 p2 p3 kc c0 c1 h0 n0) := by
  refine own_go "java/lang/StringUTF16" rfl #[rv a1, iv p2, iv p3, un, un] (fun m => ef_25 m a1 p2 p3) (plainFor_of_name pn_2) ?_
  intro p e s m below meth c s₁ S0 Bd hx hby hml hown hZ X0 e0 pre0
  have N0 := Fr.nil n0
  subst hp2
  subst hp3
  have pre1 : PQ p e below m S0 s₁ 1 #[rv a1, iv 0, iv 2, un, un] [(.int 2)] := by
    intro t kt
    refine pre0 t ?_
    refine ow_iloadN X0.here hx hby d25_0 rfl ?_
    exact kt
  obtain ⟨_, _, ⟨T2, L2, k2, n2⟩, -, X2, ⟨Lc2, hQ2, l2, y2, z2⟩, st2⟩ := Jvm.LawKit.callS X0 hx (y := (⟨"java/lang/StringUTF16", "newBytesFor", "(I)[B"⟩ : MethodName)) hown (mw hZ hw 122 rfl) (mw hZ hw 123 rfl) (mw hZ hw 114 rfl) (mw hZ hw 124 rfl) (by decide) (backOf (W := 0) (rm26 l Z a0 hw [] (2 : Int32) h0 n0 Z0 (rfl)) hZ (wi hw 124 rfl) (wi hw 114 rfl) (by decide) (by decide)) (g := (mkF m 1 #[rv a1, iv 0, iv 2, un, un] [(.int 2)])) rfl (by rw [hml]; rfl) (argsL := [(.int 2)]) (rest := []) (lenOf pd_19 rfl) rfl (by show 2 * 0 + _ ≤ _; exact Nat.le_of_eq rfl) (hb hby d25_1) (fun _ _ => ⟨rfl, e0, (by decide : 0 + 1 ≤ _), (by decide : 0 + 4 ≤ _)⟩)
  dsimp only [Pt.U, Pt.locs, Pt.cells, Pt.slots] at X2 l2 y2 z2 st2 hQ2
  subst l2 y2 z2
  obtain ⟨az_2, kz_2, rfl, N2q, KC2, P2_0, R2_0, R2_1⟩ := hQ2
  have N2 := Fr.app N0 N2q
  have Z2 : n0 ≤ T2.heap.size := Nat.le_trans Z0 KC2.1
  have K2 := (Keep.refl h0 []).trans KC2 all0
  have V_a1_3 := V_a1.keep KC2 nin0
  have sA_4 := own_stak sA KC2 ns0
  have sH_5 := own_stak sH KC2 ns0
  have sL_6 := own_stak sL KC2 ns0
  have ne_a1_az_2 : a1 ≠ az_2 := Nat.ne_of_lt (Nat.lt_of_lt_of_le V_a1.lt R2_1)
  have V_az_2_2 : Arv Z T2.heap az_2 kz_2 .byte (4 : Int32) [(.int 0), (.int 0), (.int 0), (.int 0)] (.int 0) := P2_0
  have pre2 : PQ p e below m S0 T2 4 #[rv a1, iv 0, iv 2, un, un] [(.ref az_2)] := fun t kt => pre1 t (st2 _ kt)
  have pre8 : PQ p e below m S0 T2 20 #[rv a1, iv 0, iv 2, rv az_2, iv 0] [(.int c0), (.int 0), (.ref az_2)] := by
    intro t kt
    refine pre2 t ?_
    refine ow_astoreN X2.here hx hby d25_4 rfl (l' := #[rv a1, iv 0, iv 2, rv az_2, un]) rfl ?_
    refine ow_iconst X2.here hx hby d25_5 (v := 0) rfl ?_
    refine ow_istore X2.here hx hby d25_6 (l' := #[rv a1, iv 0, iv 2, rv az_2, iv 0]) rfl ?_
    refine ow_iload X2.here hx hby d25_8 rfl ?_
    refine ow_iloadN X2.here hx hby d25_10 rfl ?_
    refine ow_icmpNo X2.here hx hby d25_11 (tlt (by decide)).2.1 ?_
    refine ow_aloadN X2.here hx hby d25_14 rfl rfl ?_
    refine ow_iload X2.here hx hby d25_15 rfl ?_
    refine ow_aloadN X2.here hx hby d25_17 rfl rfl ?_
    refine ow_iloadN X2.here hx hby d25_18 rfl ?_
    obtain ⟨cl7, Ar7, -, S7, M7, H7, -⟩ := (id V_a1_3)
    have hin7 := inb_of (j := (0 : Int32)) S7 ⟨by decide, by decide⟩
    refine X2.caload hx (j := (0 : Int32)) (v := (.int c0)) Ar7.1 (State.isArrayOf_alike hZ.alike Ar7.2.1) Ar7.2.2 hin7 (H7.at hin7 rfl) (g := (mkF m 19 #[rv a1, iv 0, iv 2, rv az_2, iv 0] [(.int 0), (.ref a1), (.int 0), (.ref az_2)])) rfl rfl (hb hby d25_19) _ ?_
    exact kt
  obtain ⟨_, _, ⟨T9, L9, k9, n9⟩, -, X9, ⟨Lc9, hQ9, l9, y9, z9⟩, st9⟩ := Jvm.LawKit.callS X2 hx (y := mn14) hown (mw hZ hw 129 rfl) (mw hZ hw 130 rfl) (mw hZ hw 114 rfl) (mw hZ hw 131 rfl) (by decide) (backOf (W := 0) (rm28_20 l Z a0 hw [] az_2 (0 : Int32) c0 kz_2 (0 : Int32) (0 : Int32) (0 : Int32) (0 : Int32) T2.heap n0 Z2 V_az_2_2 sA_4 sH_5 sL_6 R2_0 (rfl)) hZ (wi hw 131 rfl) (wi hw 114 rfl) (by decide) (by decide)) (g := (mkF m 20 #[rv a1, iv 0, iv 2, rv az_2, iv 0] [(.int c0), (.int 0), (.ref az_2)])) rfl (by rw [hml]; rfl) (argsL := [(.ref az_2), (.int 0), (.int c0)]) (rest := []) (lenOf pd_14 rfl) rfl (by show 2 * 0 + _ ≤ _; exact Nat.le_of_eq rfl) (hb hby d25_20) (fun _ _ => ⟨rfl, rfl, (by decide : 1 + 0 ≤ _), (by decide : 4 + 0 ≤ _)⟩)
  dsimp only [Pt.U, Pt.locs, Pt.cells, Pt.slots] at X9 l9 y9 z9 st9 hQ9
  subst l9 y9 z9
  obtain ⟨rfl, N9q, KC9, P9_0⟩ := hQ9
  have N9 := Fr.app N2 N9q
  have Z9 : n0 ≤ T9.heap.size := Nat.le_trans Z2 KC9.1
  have K9 := K2.trans KC9 (allS (Or.inr (Nat.le_trans (Keep.refl h0 []).1 R2_1)) all0)
  have V_a1_10 := V_a1_3.keep KC9 (ninS ne_a1_az_2 nin0)
  have sA_11 := own_stak sA_4 KC9 (nsS V_az_2_2.nostat ns0)
  have sH_12 := own_stak sH_5 KC9 (nsS V_az_2_2.nostat ns0)
  have sL_13 := own_stak sL_6 KC9 (nsS V_az_2_2.nostat ns0)
  have V_az_2_9 : Arv Z T9.heap az_2 kz_2 .byte (4 : Int32) [(.int (own_lo c0)), (.int (own_hi c0)), (.int 0), (.int 0)] (.int 0) := P9_0
  have pre9 : PQ p e below m S0 T9 23 #[rv a1, iv 0, iv 2, rv az_2, iv 0] [] := fun t kt => pre8 t (st9 _ kt)
  have pre16 : PQ p e below m S0 T9 20 #[rv a1, iv 1, iv 2, rv az_2, iv 1] [(.int c1), (.int 1), (.ref az_2)] := by
    intro t kt
    refine pre9 t ?_
    refine ow_iinc X9.here hx hby d25_23 rfl (l' := #[rv a1, iv 1, iv 2, rv az_2, iv 0]) rfl ?_
    show SQ p e below m T9 26 #[rv a1, iv 1, iv 2, rv az_2, iv 0] [] _
    refine ow_iinc X9.here hx hby d25_26 rfl (l' := #[rv a1, iv 1, iv 2, rv az_2, iv 1]) rfl ?_
    show SQ p e below m T9 29 #[rv a1, iv 1, iv 2, rv az_2, iv 1] [] _
    refine ow_goto X9.here hx hby d25_29 (pc' := 8) (by decide) (by decide) ?_
    refine ow_iload X9.here hx hby d25_8 rfl ?_
    refine ow_iloadN X9.here hx hby d25_10 rfl ?_
    refine ow_icmpNo X9.here hx hby d25_11 (tlt (by decide)).2.1 ?_
    refine ow_aloadN X9.here hx hby d25_14 rfl rfl ?_
    refine ow_iload X9.here hx hby d25_15 rfl ?_
    refine ow_aloadN X9.here hx hby d25_17 rfl rfl ?_
    refine ow_iloadN X9.here hx hby d25_18 rfl ?_
    obtain ⟨cl15, Ar15, -, S15, M15, H15, -⟩ := (id V_a1_10)
    have hin15 := inb_of (j := (1 : Int32)) S15 ⟨by decide, by decide⟩
    refine X9.caload hx (j := (1 : Int32)) (v := (.int c1)) Ar15.1 (State.isArrayOf_alike hZ.alike Ar15.2.1) Ar15.2.2 hin15 (H15.at hin15 rfl) (g := (mkF m 19 #[rv a1, iv 1, iv 2, rv az_2, iv 1] [(.int 1), (.ref a1), (.int 1), (.ref az_2)])) rfl rfl (hb hby d25_19) _ ?_
    exact kt
  obtain ⟨_, _, ⟨T17, L17, k17, n17⟩, -, X17, ⟨Lc17, hQ17, l17, y17, z17⟩, st17⟩ := Jvm.LawKit.callS X9 hx (y := mn14) hown (mw hZ hw 129 rfl) (mw hZ hw 130 rfl) (mw hZ hw 114 rfl) (mw hZ hw 131 rfl) (by decide) (backOf (W := 0) (rm28_21 l Z a0 hw [] az_2 (1 : Int32) c1 kz_2 (own_lo c0) (own_hi c0) (0 : Int32) (0 : Int32) T9.heap n0 Z9 V_az_2_9 sA_11 sH_12 sL_13 R2_0 (rfl)) hZ (wi hw 131 rfl) (wi hw 114 rfl) (by decide) (by decide)) (g := (mkF m 20 #[rv a1, iv 1, iv 2, rv az_2, iv 1] [(.int c1), (.int 1), (.ref az_2)])) rfl (by rw [hml]; rfl) (argsL := [(.ref az_2), (.int 1), (.int c1)]) (rest := []) (lenOf pd_14 rfl) rfl (by show 2 * 0 + _ ≤ _; exact Nat.le_of_eq rfl) (hb hby d25_20) (fun _ _ => ⟨rfl, rfl, (by decide : 1 + 0 ≤ _), (by decide : 4 + 0 ≤ _)⟩)
  dsimp only [Pt.U, Pt.locs, Pt.cells, Pt.slots] at X17 l17 y17 z17 st17 hQ17
  subst l17 y17 z17
  obtain ⟨rfl, N17q, KC17, P17_0⟩ := hQ17
  have N17 := Fr.app N9 N17q
  have Z17 : n0 ≤ T17.heap.size := Nat.le_trans Z9 KC17.1
  have K17 := K9.trans KC17 (allS (Or.inr (Nat.le_trans (Keep.refl h0 []).1 R2_1)) all0)
  have V_a1_18 := V_a1_10.keep KC17 (ninS ne_a1_az_2 nin0)
  have sA_19 := own_stak sA_11 KC17 (nsS V_az_2_9.nostat ns0)
  have sH_20 := own_stak sH_12 KC17 (nsS V_az_2_9.nostat ns0)
  have sL_21 := own_stak sL_13 KC17 (nsS V_az_2_9.nostat ns0)
  have V_az_2_17 : Arv Z T17.heap az_2 kz_2 .byte (4 : Int32) [(.int (own_lo c0)), (.int (own_hi c0)), (.int (own_lo c1)), (.int (own_hi c1))] (.int 0) := P17_0
  have pre17 : PQ p e below m S0 T17 23 #[rv a1, iv 1, iv 2, rv az_2, iv 1] [] := fun t kt => pre16 t (st17 _ kt)
  have pre23 : PQ p e below m S0 T17 33 #[rv a1, iv 2, iv 2, rv az_2, iv 2] [(.ref az_2)] := by
    intro t kt
    refine pre17 t ?_
    refine ow_iinc X17.here hx hby d25_23 rfl (l' := #[rv a1, iv 2, iv 2, rv az_2, iv 1]) rfl ?_
    show SQ p e below m T17 26 #[rv a1, iv 2, iv 2, rv az_2, iv 1] [] _
    refine ow_iinc X17.here hx hby d25_26 rfl (l' := #[rv a1, iv 2, iv 2, rv az_2, iv 2]) rfl ?_
    show SQ p e below m T17 29 #[rv a1, iv 2, iv 2, rv az_2, iv 2] [] _
    refine ow_goto X17.here hx hby d25_29 (pc' := 8) (by decide) (by decide) ?_
    refine ow_iload X17.here hx hby d25_8 rfl ?_
    refine ow_iloadN X17.here hx hby d25_10 rfl ?_
    refine ow_icmpYes X17.here hx hby d25_11 (flt (by decide)).2.1 (pc' := 32) (by decide) (by decide) ?_
    refine ow_aloadN X17.here hx hby d25_32 rfl rfl ?_
    exact kt
  obtain ⟨fs, hr, hu, hd, hW, hme⟩ := X17.leave (v := some (.ref az_2)) (fun h => by rw [Bd.returns] at h; cases h)
  refine ⟨_, _, pre23 _ ?_, hu, hd, _, _, rfl, ?_, ⟨_, rfl⟩, hW, hme.mono (by decide) (by decide)⟩
  · show SQ p e below m T17 33 #[rv a1, iv 2, iv 2, rv az_2, iv 2] [(.ref az_2)] _
    jvm_step X17.here [X17.here.top, hx, (hb hby d25_33), X17.method', Bd.returns, Value.isRef, FieldType.isReference]
    first | (intro acts; rw [hr _ acts rfl rfl rfl]) | rw [hr _ _ rfl rfl rfl]
    exact Steps.refl _
  · show Qrm25 Z a1 (0 : Int32) (2 : Int32) kc c0 c1 h0 n0 _ T17.heap _
    exact ⟨az_2, kz_2, rfl, N17, K17, V_az_2_17, R2_0, (Nat.le_trans (Keep.refl h0 []).1 R2_1)⟩
def Qrm23_L (Z : State) (a1 : Addr) (p2 p3 : Int32) (kc : ClassId) (c0 c1 : Int32) (h0 : Heap) (n0 : Nat) (v : Option Value) (h : Heap) (L : List Loc) : Prop := ∃ (az : Addr) (kz : ClassId), v = some (.ref az) ∧ Fr n0 L ∧ Keep h0 h [] ∧ Arv Z h az kz .byte (2 : Int32) [(.int (own_b c0)), (.int (own_b c1))] (.int 0) ∧ n0 ≤ az ∧ h0.size ≤ az
theorem d23_0 : decode kb4 0 = .ok (.iload_n 2, 1) := by decide +kernel
theorem d23_1 : decode kb4 1 = .ok (.newarray .byte, 2) := by decide +kernel
theorem d23_3 : decode kb4 3 = .ok (.astore_n 3, 1) := by decide +kernel
theorem d23_4 : decode kb4 4 = .ok (.aload_n 0, 1) := by decide +kernel
theorem d23_5 : decode kb4 5 = .ok (.iload_n 1, 1) := by decide +kernel
theorem d23_6 : decode kb4 6 = .ok (.aload_n 3, 1) := by decide +kernel
theorem d23_7 : decode kb4 7 = .ok (.iconst 0, 1) := by decide +kernel
theorem d23_8 : decode kb4 8 = .ok (.iload_n 2, 1) := by decide +kernel
theorem d23_9 : decode kb4 9 = .ok (.invokestatic 115, 3) := by decide +kernel
theorem d23_12 : decode kb4 12 = .ok (.istore 4, 2) := by decide +kernel
theorem d23_14 : decode kb4 14 = .ok (.iload 4, 2) := by decide +kernel
theorem d23_16 : decode kb4 16 = .ok (.iload_n 2, 1) := by decide +kernel
theorem d23_17 : decode kb4 17 = .ok (.if_icmp .eq 40, 3) := by decide +kernel
theorem d23_57 : decode kb4 57 = .ok (.aload_n 3, 1) := by decide +kernel
theorem d23_58 : decode kb4 58 = .ok (.areturn, 1) := by decide +kernel
theorem ef_23 (m : MethodId) (x0 : Addr) (x1 x2 : Int32) : entryFrame m #[(.ref x0), (.int x1), (.int x2)] 6 = mkF m 0 #[rv x0, iv x1, iv x2, un, un, un] [] := by first | (simp [entryFrame, mkF, argsToLocals, Value.category]; done) | rfl
theorem rm23_L (l : Launch) (Z : State) (a0 : Array Value) (hw : HW a0 Z) (ws : List Jvm.Cond) (a1 : Addr) (p2 p3 : Int32) (kc : ClassId) (c0 c1 : Int32) (h0 : Heap) (n0 : Nat) (Z0 : n0 ≤ h0.size) (V_a1 : Arv Z h0 a1 kc .char (2 : Int32) [(.int c0), (.int c1)] (.int 0)) (sA : sta0 Z h0 (.int 1)) (sH : sta1 Z h0 (.int 0)) (sL : sta2 Z h0 (.int 8)) (hp2 : p2 = (0 : Int32)) (hp3 : p3 = (2 : Int32)) (h0_ : ¬ (255 : Int32) < c0) (h1_ : ¬ (255 : Int32) < c1) (hb0 : ¬ c0 < 0 ∧ ¬ (65535 : Int32) < c0) (hb1 : ¬ c1 < 0 ∧ ¬ (65535 : Int32) < c1) :
    MF l Z h0 mn20 kb4 6 (some (.array .byte)) ws ({ frames := 1, cells := 1, slots := 2, locals := 18 } : Room) #[(.ref a1), (.int p2), (.int p3)] (Qrm23_L Z a1 p2 p3 kc c0 c1 h0 n0) := by
  refine own_go "java/lang/StringUTF16" rfl #[rv a1, iv p2, iv p3, un, un, un] (fun m => ef_23 m a1 p2 p3) (plainFor_of_name pn_2) ?_
  intro p e s m below meth c s₁ S0 Bd hx hby hml hown hZ X0 e0 pre0
  have N0 := Fr.nil n0
  subst hp2
  subst hp3
  have pre1 : PQ p e below m S0 s₁ 1 #[rv a1, iv 0, iv 2, un, un, un] [(.int 2)] := by
    intro t kt
    refine pre0 t ?_
    refine ow_iloadN X0.here hx hby d23_0 rfl ?_
    exact kt
  obtain ⟨T2, h2, k2, X2, e2, E2, A2, st2⟩ := newP X0 hx hZ (wi hw 7 rfl) e0 (g := (mkF m 1 #[rv a1, iv 0, iv 2, un, un, un] [(.int 2)])) rfl (hb hby d23_1) rfl (by decide) (cap := 2) (by decide) (by decide) (by decide) (by decide)
  obtain ⟨b2, g2⟩ : ∃ z, z = h0.size := ⟨_, rfl⟩
  have ne_a1_b2 : a1 ≠ b2 := Nat.ne_of_lt (Nat.lt_of_lt_of_le V_a1.lt (Nat.le_of_eq g2.symm))
  have g_b2 : n0 ≤ b2 := Nat.le_trans Z0 (Nat.le_of_eq g2.symm)
  have sz_b2 : h0.size ≤ b2 := Nat.le_trans (Keep.refl h0 []).1 (Nat.le_of_eq g2.symm)
  rw [← g2] at A2 st2
  have K2 := (Keep.refl h0 []).ext E2
  have Z2 := Nat.le_trans Z0 E2.1
  have V_a1_3 := V_a1.ext E2
  have sA_4 := sA.ext E2
  have sH_5 := sH.ext E2
  have sL_6 := sL.ext E2
  have V_b2 : Arv Z h2 b2 k2 .byte (2 : Int32) [(.int 0), (.int 0)] (.int 0) := (Arv.new A2 (by decide)).pad (pad_rep [] (.int 0) 2)
  have pre2 : PQ p e below m S0 T2 3 #[rv a1, iv 0, iv 2, un, un, un] [(.ref b2)] := fun t kt => pre1 t (st2 _ kt)
  have pre7 : PQ p e below m S0 T2 9 #[rv a1, iv 0, iv 2, rv b2, un, un] [(.int 2), (.int 0), (.ref b2), (.int 0), (.ref a1)] := by
    intro t kt
    refine pre2 t ?_
    refine ow_astoreN X2.here hx hby d23_3 rfl (l' := #[rv a1, iv 0, iv 2, rv b2, un, un]) rfl ?_
    refine ow_aloadN X2.here hx hby d23_4 rfl rfl ?_
    refine ow_iloadN X2.here hx hby d23_5 rfl ?_
    refine ow_aloadN X2.here hx hby d23_6 rfl rfl ?_
    refine ow_iconst X2.here hx hby d23_7 (v := 0) rfl ?_
    refine ow_iloadN X2.here hx hby d23_8 rfl ?_
    exact kt
  obtain ⟨_, _, ⟨T8, L8, k8, n8⟩, -, X8, ⟨Lc8, hQ8, l8, y8, z8⟩, st8⟩ := Jvm.LawKit.callS X2 hx (y := mn19) hown (mw hZ hw 116 rfl) (mw hZ hw 117 rfl) (mw hZ hw 114 rfl) (mw hZ hw 118 rfl) (by decide) (backOf (W := 0) (rm24_L l Z a0 hw [] a1 (0 : Int32) b2 (0 : Int32) (2 : Int32) kc c0 c1 k2 (0 : Int32) (0 : Int32) h2 n0 Z2 V_a1_3 V_b2 g_b2 ne_a1_b2 (rfl) (rfl) (rfl) (h0_) (h1_)) hZ (wi hw 118 rfl) (wi hw 114 rfl) (by decide) (by decide)) (g := (mkF m 9 #[rv a1, iv 0, iv 2, rv b2, un, un] [(.int 2), (.int 0), (.ref b2), (.int 0), (.ref a1)])) rfl (by rw [hml]; rfl) (argsL := [(.ref a1), (.int 0), (.ref b2), (.int 0), (.int 2)]) (rest := []) (lenOf pd_20 rfl) rfl (by show 2 * 0 + _ ≤ _; exact Nat.le_of_eq rfl) (hb hby d23_9) (fun _ _ => ⟨rfl, e2, (by decide : 1 + 0 ≤ _), (by decide : 2 + 0 ≤ _)⟩)
  dsimp only [Pt.U, Pt.locs, Pt.cells, Pt.slots] at X8 l8 y8 z8 st8 hQ8
  subst l8 y8 z8
  obtain ⟨rfl, N8q, KC8, P8_0⟩ := hQ8
  have N8 := Fr.app N0 N8q
  have Z8 : n0 ≤ T8.heap.size := Nat.le_trans Z2 KC8.1
  have K8 := K2.trans KC8 (allS (Or.inr sz_b2) all0)
  have V_a1_9 := V_a1_3.keep KC8 (ninS ne_a1_b2 nin0)
  have sA_10 := own_stak sA_4 KC8 (nsS V_b2.nostat ns0)
  have sH_11 := own_stak sH_5 KC8 (nsS V_b2.nostat ns0)
  have sL_12 := own_stak sL_6 KC8 (nsS V_b2.nostat ns0)
  have V_b2_8 : Arv Z T8.heap b2 k2 .byte (2 : Int32) [(.int (own_b c0)), (.int (own_b c1))] (.int 0) := P8_0
  have pre8 : PQ p e below m S0 T8 12 #[rv a1, iv 0, iv 2, rv b2, un, un] [(.int 2)] := fun t kt => pre7 t (st8 _ kt)
  have pre14 : PQ p e below m S0 T8 58 #[rv a1, iv 0, iv 2, rv b2, iv 2, un] [(.ref b2)] := by
    intro t kt
    refine pre8 t ?_
    refine ow_istore X8.here hx hby d23_12 (l' := #[rv a1, iv 0, iv 2, rv b2, iv 2, un]) rfl ?_
    refine ow_iload X8.here hx hby d23_14 rfl ?_
    refine ow_iloadN X8.here hx hby d23_16 rfl ?_
    refine ow_icmpYes X8.here hx hby d23_17 (teq (by decide)).1 (pc' := 57) (by decide) (by decide) ?_
    refine ow_aloadN X8.here hx hby d23_57 rfl rfl ?_
    exact kt
  obtain ⟨fs, hr, hu, hd, hW, hme⟩ := X8.leave (v := some (.ref b2)) (fun h => by rw [Bd.returns] at h; cases h)
  refine ⟨_, _, pre14 _ ?_, hu, hd, _, _, rfl, ?_, ⟨_, rfl⟩, hW, hme.mono (by decide) (by decide)⟩
  · show SQ p e below m T8 58 #[rv a1, iv 0, iv 2, rv b2, iv 2, un] [(.ref b2)] _
    jvm_step X8.here [X8.here.top, hx, (hb hby d23_58), X8.method', Bd.returns, Value.isRef, FieldType.isReference]
    first | (intro acts; rw [hr _ acts rfl rfl rfl]) | rw [hr _ _ rfl rfl rfl]
    exact Steps.refl _
  · show Qrm23_L Z a1 (0 : Int32) (2 : Int32) kc c0 c1 h0 n0 _ T8.heap _
    exact ⟨b2, k2, rfl, N8, K8, V_b2_8, g_b2, sz_b2⟩
def Qrm23_U0 (Z : State) (a1 : Addr) (p2 p3 : Int32) (kc : ClassId) (c0 c1 : Int32) (h0 : Heap) (n0 : Nat) (v : Option Value) (h : Heap) (L : List Loc) : Prop := ∃ (az : Addr) (kz : ClassId), v = some (.ref az) ∧ Fr n0 L ∧ Keep h0 h [] ∧ Arv Z h az kz .byte (4 : Int32) [(.int (own_lo c0)), (.int (own_hi c0)), (.int (own_lo c1)), (.int (own_hi c1))] (.int 0) ∧ n0 ≤ az ∧ h0.size ≤ az
theorem d23_20 : decode kb4 20 = .ok (.aload_n 0, 1) := by decide +kernel
theorem d23_21 : decode kb4 21 = .ok (.iload_n 1, 1) := by decide +kernel
theorem d23_22 : decode kb4 22 = .ok (.iload_n 2, 1) := by decide +kernel
theorem d23_23 : decode kb4 23 = .ok (.invokestatic 119, 3) := by decide +kernel
theorem d23_26 : decode kb4 26 = .ok (.astore 5, 2) := by decide +kernel
theorem d23_28 : decode kb4 28 = .ok (.aload 5, 2) := by decide +kernel
theorem d23_30 : decode kb4 30 = .ok (.iload 4, 2) := by decide +kernel
theorem d23_32 : decode kb4 32 = .ok (.invokestatic 71, 3) := by decide +kernel
theorem d23_35 : decode kb4 35 = .ok (.sipush 255, 3) := by decide +kernel
theorem d23_38 : decode kb4 38 = .ok (.if_icmp .gt 16, 3) := by decide +kernel
theorem d23_54 : decode kb4 54 = .ok (.aload 5, 2) := by decide +kernel
theorem d23_56 : decode kb4 56 = .ok (.areturn, 1) := by decide +kernel

theorem rm23_U0 (l : Launch) (Z : State) (a0 : Array Value) (hw : HW a0 Z) (ws : List Jvm.Cond) (a1 : Addr) (p2 p3 : Int32) (kc : ClassId) (c0 c1 : Int32) (h0 : Heap) (n0 : Nat) (Z0 : n0 ≤ h0.size) (V_a1 : Arv Z h0 a1 kc .char (2 : Int32) [(.int c0), (.int c1)] (.int 0)) (sA : sta0 Z h0 (.int 1)) (sH : sta1 Z h0 (.int 0)) (sL : sta2 Z h0 (.int 8)) (hp2 : p2 = (0 : Int32)) (hp3 : p3 = (2 : Int32)) (h0_ : (255 : Int32) < c0) (hb0 : ¬ c0 < 0 ∧ ¬ (65535 : Int32) < c0) (hb1 : ¬ c1 < 0 ∧ ¬ (65535 : Int32) < c1) :
    MF l Z h0 mn20 kb4 6 (some (.array .byte)) ws ({ frames := 3, cells := 2, slots := 6, locals := 40 } : Room) #[(.ref a1), (.int p2), (.int p3)] (Qrm23_U0 Z a1 p2 p3 kc c0 c1 h0 n0) := by
  refine own_go "java/lang/StringUTF16" rfl #[rv a1, iv p2, iv p3, un, un, un] (fun m => ef_23 m a1 p2 p3) (plainFor_of_name pn_2) ?_
  intro p e s m below meth c s₁ S0 Bd hx hby hml hown hZ X0 e0 pre0
  have N0 := Fr.nil n0
  subst hp2
  subst hp3
  have pre1 : PQ p e below m S0 s₁ 1 #[rv a1, iv 0, iv 2, un, un, un] [(.int 2)] := by
    intro t kt
    refine pre0 t ?_
    refine ow_iloadN X0.here hx hby d23_0 rfl ?_
    exact kt
  obtain ⟨T2, h2, k2, X2, e2, E2, A2, st2⟩ := newP X0 hx hZ (wi hw 7 rfl) e0 (g := (mkF m 1 #[rv a1, iv 0, iv 2, un, un, un] [(.int 2)])) rfl (hb hby d23_1) rfl (by decide) (cap := 2) (by decide) (by decide) (by decide) (by decide)
  obtain ⟨b2, g2⟩ : ∃ z, z = h0.size := ⟨_, rfl⟩
  have ne_a1_b2 : a1 ≠ b2 := Nat.ne_of_lt (Nat.lt_of_lt_of_le V_a1.lt (Nat.le_of_eq g2.symm))
  have g_b2 : n0 ≤ b2 := Nat.le_trans Z0 (Nat.le_of_eq g2.symm)
  have sz_b2 : h0.size ≤ b2 := Nat.le_trans (Keep.refl h0 []).1 (Nat.le_of_eq g2.symm)
  rw [← g2] at A2 st2
  have K2 := (Keep.refl h0 []).ext E2
  have Z2 := Nat.le_trans Z0 E2.1
  have V_a1_3 := V_a1.ext E2
  have sA_4 := sA.ext E2
  have sH_5 := sH.ext E2
  have sL_6 := sL.ext E2
  have V_b2 : Arv Z h2 b2 k2 .byte (2 : Int32) [(.int 0), (.int 0)] (.int 0) := (Arv.new A2 (by decide)).pad (pad_rep [] (.int 0) 2)
  have pre2 : PQ p e below m S0 T2 3 #[rv a1, iv 0, iv 2, un, un, un] [(.ref b2)] := fun t kt => pre1 t (st2 _ kt)
  have pre7 : PQ p e below m S0 T2 9 #[rv a1, iv 0, iv 2, rv b2, un, un] [(.int 2), (.int 0), (.ref b2), (.int 0), (.ref a1)] := by
    intro t kt
    refine pre2 t ?_
    refine ow_astoreN X2.here hx hby d23_3 rfl (l' := #[rv a1, iv 0, iv 2, rv b2, un, un]) rfl ?_
    refine ow_aloadN X2.here hx hby d23_4 rfl rfl ?_
    refine ow_iloadN X2.here hx hby d23_5 rfl ?_
    refine ow_aloadN X2.here hx hby d23_6 rfl rfl ?_
    refine ow_iconst X2.here hx hby d23_7 (v := 0) rfl ?_
    refine ow_iloadN X2.here hx hby d23_8 rfl ?_
    exact kt
  obtain ⟨_, _, ⟨T8, L8, k8, n8⟩, -, X8, ⟨Lc8, hQ8, l8, y8, z8⟩, st8⟩ := Jvm.LawKit.callS X2 hx (y := mn19) hown (mw hZ hw 116 rfl) (mw hZ hw 117 rfl) (mw hZ hw 114 rfl) (mw hZ hw 118 rfl) (by decide) (backOf (W := 0) (rm24_U0 l Z a0 hw [] a1 (0 : Int32) b2 (0 : Int32) (2 : Int32) kc c0 c1 k2 (0 : Int32) (0 : Int32) h2 n0 Z2 V_a1_3 V_b2 g_b2 ne_a1_b2 (rfl) (rfl) (rfl) (h0_)) hZ (wi hw 118 rfl) (wi hw 114 rfl) (by decide) (by decide)) (g := (mkF m 9 #[rv a1, iv 0, iv 2, rv b2, un, un] [(.int 2), (.int 0), (.ref b2), (.int 0), (.ref a1)])) rfl (by rw [hml]; rfl) (argsL := [(.ref a1), (.int 0), (.ref b2), (.int 0), (.int 2)]) (rest := []) (lenOf pd_20 rfl) rfl (by show 2 * 0 + _ ≤ _; exact Nat.le_of_eq rfl) (hb hby d23_9) (fun _ _ => ⟨rfl, e2, (by decide : 1 + 0 ≤ _), (by decide : 2 + 0 ≤ _)⟩)
  dsimp only [Pt.U, Pt.locs, Pt.cells, Pt.slots] at X8 l8 y8 z8 st8 hQ8
  subst l8 y8 z8
  obtain ⟨rfl, N8q, KC8, P8_0⟩ := hQ8
  have N8 := Fr.app N0 N8q
  have Z8 : n0 ≤ T8.heap.size := Nat.le_trans Z2 KC8.1
  have K8 := K2.trans KC8 (allS (Or.inr sz_b2) all0)
  have V_a1_9 := V_a1_3.keep KC8 (ninS ne_a1_b2 nin0)
  have sA_10 := own_stak sA_4 KC8 (nsS V_b2.nostat ns0)
  have sH_11 := own_stak sH_5 KC8 (nsS V_b2.nostat ns0)
  have sL_12 := own_stak sL_6 KC8 (nsS V_b2.nostat ns0)
  have V_b2_8 : Arv Z T8.heap b2 k2 .byte (2 : Int32) [(.int 0), (.int 0)] (.int 0) := P8_0
  have pre8 : PQ p e below m S0 T8 12 #[rv a1, iv 0, iv 2, rv b2, un, un] [(.int 0)] := fun t kt => pre7 t (st8 _ kt)
  have pre14 : PQ p e below m S0 T8 23 #[rv a1, iv 0, iv 2, rv b2, iv 0, un] [(.int 2), (.int 0), (.ref a1)] := by
    intro t kt
    refine pre8 t ?_
    refine ow_istore X8.here hx hby d23_12 (l' := #[rv a1, iv 0, iv 2, rv b2, iv 0, un]) rfl ?_
    refine ow_iload X8.here hx hby d23_14 rfl ?_
    refine ow_iloadN X8.here hx hby d23_16 rfl ?_
    refine ow_icmpNo X8.here hx hby d23_17 (feq (by decide)).1 ?_
    refine ow_aloadN X8.here hx hby d23_20 rfl rfl ?_
    refine ow_iloadN X8.here hx hby d23_21 rfl ?_
    refine ow_iloadN X8.here hx hby d23_22 rfl ?_
    exact kt
  obtain ⟨_, _, ⟨T15, L15, k15, n15⟩, -, X15, ⟨Lc15, hQ15, l15, y15, z15⟩, st15⟩ := Jvm.LawKit.callS X8 hx (y := mn38) hown (mw hZ hw 119 rfl) (mw hZ hw 120 rfl) (mw hZ hw 114 rfl) (mw hZ hw 121 rfl) (by decide) (backOf (W := 0) (rm25 l Z a0 hw [] a1 (0 : Int32) (2 : Int32) kc c0 c1 T8.heap n0 Z8 V_a1_9 sA_10 sH_11 sL_12 (rfl) (rfl)) hZ (wi hw 121 rfl) (wi hw 114 rfl) (by decide) (by decide)) (g := (mkF m 23 #[rv a1, iv 0, iv 2, rv b2, iv 0, un] [(.int 2), (.int 0), (.ref a1)])) rfl (by rw [hml]; rfl) (argsL := [(.ref a1), (.int 0), (.int 2)]) (rest := []) (lenOf pd_21 rfl) rfl (by show 2 * 0 + _ ≤ _; exact Nat.le_of_eq rfl) (hb hby d23_23) (fun _ _ => ⟨rfl, rfl, (by decide : 1 + 1 ≤ _), (by decide : 2 + 4 ≤ _)⟩)
  dsimp only [Pt.U, Pt.locs, Pt.cells, Pt.slots] at X15 l15 y15 z15 st15 hQ15
  subst l15 y15 z15
  obtain ⟨az_15, kz_15, rfl, N15q, KC15, P15_0, R15_0, R15_1⟩ := hQ15
  have N15 := Fr.app N8 N15q
  have Z15 : n0 ≤ T15.heap.size := Nat.le_trans Z8 KC15.1
  have K15 := K8.trans KC15 all0
  have V_a1_16 := V_a1_9.keep KC15 nin0
  have sA_17 := own_stak sA_10 KC15 ns0
  have sH_18 := own_stak sH_11 KC15 ns0
  have sL_19 := own_stak sL_12 KC15 ns0
  have V_b2_8_20 := V_b2_8.keep KC15 nin0
  have ne_a1_az_15 : a1 ≠ az_15 := Nat.ne_of_lt (Nat.lt_of_lt_of_le V_a1_9.lt R15_1)
  have ne_b2_az_15 : b2 ≠ az_15 := Nat.ne_of_lt (Nat.lt_of_lt_of_le V_b2_8.lt R15_1)
  have V_az_15_15 : Arv Z T15.heap az_15 kz_15 .byte (4 : Int32) [(.int (own_lo c0)), (.int (own_hi c0)), (.int (own_lo c1)), (.int (own_hi c1))] (.int 0) := P15_0
  have pre15 : PQ p e below m S0 T15 26 #[rv a1, iv 0, iv 2, rv b2, iv 0, un] [(.ref az_15)] := fun t kt => pre14 t (st15 _ kt)
  have pre21 : PQ p e below m S0 T15 32 #[rv a1, iv 0, iv 2, rv b2, iv 0, rv az_15] [(.int 0), (.ref az_15)] := by
    intro t kt
    refine pre15 t ?_
    refine ow_astore X15.here hx hby d23_26 rfl (l' := #[rv a1, iv 0, iv 2, rv b2, iv 0, rv az_15]) rfl ?_
    refine ow_aload X15.here hx hby d23_28 rfl rfl ?_
    refine ow_iload X15.here hx hby d23_30 rfl ?_
    exact kt
  obtain ⟨_, _, ⟨T22, L22, k22, n22⟩, -, X22, ⟨Lc22, hQ22, l22, y22, z22⟩, st22⟩ := Jvm.LawKit.callS X15 hx (y := mn6) hown (mw hZ hw 135 rfl) (mw hZ hw 136 rfl) (mw hZ hw 114 rfl) (mw hZ hw 137 rfl) (by decide) (backOf (W := 0) (rm29_20 l Z a0 hw [] az_15 (0 : Int32) kz_15 (own_lo c0) (own_hi c0) (own_lo c1) (own_hi c1) T15.heap n0 Z15 V_az_15_15 sA_17 sH_18 sL_19 (rfl)) hZ (wi hw 137 rfl) (wi hw 114 rfl) (by decide) (by decide)) (g := (mkF m 32 #[rv a1, iv 0, iv 2, rv b2, iv 0, rv az_15] [(.int 0), (.ref az_15)])) rfl (by rw [hml]; rfl) (argsL := [(.ref az_15), (.int 0)]) (rest := []) (lenOf pd_4 rfl) rfl (by show 2 * 0 + _ ≤ _; exact Nat.le_of_eq rfl) (hb hby d23_32) (fun _ _ => ⟨rfl, rfl, (by decide : 2 + 0 ≤ _), (by decide : 6 + 0 ≤ _)⟩)
  dsimp only [Pt.U, Pt.locs, Pt.cells, Pt.slots] at X22 l22 y22 z22 st22 hQ22
  subst l22 y22 z22
  obtain ⟨rfl, N22q, e22⟩ := hQ22
  have N22 := Fr.app N15 N22q
  have pre22 : PQ p e below m S0 T22 35 #[rv a1, iv 0, iv 2, rv b2, iv 0, rv az_15] [(.int (own_pr (own_lo c0) (own_hi c0)))] := fun t kt => pre21 t (st22 _ kt)
  have pre23 : PQ p e below m S0 T22 56 #[rv a1, iv 0, iv 2, rv b2, iv 0, rv az_15] [(.ref az_15)] := by
    intro t kt
    refine pre22 t ?_
    refine ow_sipush X22.here hx hby d23_35 (v := 255) rfl ?_
    refine ow_icmpYes X22.here hx hby d23_38 (tlt (by rw [own_prs hb0]; exact h0_)).2.2.1 (pc' := 54) (by decide) (by decide) ?_
    refine ow_aload X22.here hx hby d23_54 rfl rfl ?_
    exact kt
  obtain ⟨fs, hr, hu, hd, hW, hme⟩ := X22.leave (v := some (.ref az_15)) (fun h => by rw [Bd.returns] at h; cases h)
  refine ⟨_, _, pre23 _ ?_, hu, hd, _, _, rfl, ?_, ⟨_, rfl⟩, hW, hme.mono (by decide) (by decide)⟩
  · show SQ p e below m T22 56 #[rv a1, iv 0, iv 2, rv b2, iv 0, rv az_15] [(.ref az_15)] _
    jvm_step X22.here [X22.here.top, hx, (hb hby d23_56), X22.method', Bd.returns, Value.isRef, FieldType.isReference]
    first | (intro acts; rw [hr _ acts rfl rfl rfl]) | rw [hr _ _ rfl rfl rfl]
    exact Steps.refl _
  · show Qrm23_U0 Z a1 (0 : Int32) (2 : Int32) kc c0 c1 h0 n0 _ T22.heap _
    rw [e22]
    exact ⟨az_15, kz_15, rfl, N22, K15, V_az_15_15, R15_0, (Nat.le_trans K8.1 R15_1)⟩
def Qrm23_U1 (Z : State) (a1 : Addr) (p2 p3 : Int32) (kc : ClassId) (c0 c1 : Int32) (h0 : Heap) (n0 : Nat) (v : Option Value) (h : Heap) (L : List Loc) : Prop := ∃ (az : Addr) (kz : ClassId), v = some (.ref az) ∧ Fr n0 L ∧ Keep h0 h [] ∧ Arv Z h az kz .byte (4 : Int32) [(.int (own_lo c0)), (.int (own_hi c0)), (.int (own_lo c1)), (.int (own_hi c1))] (.int 0) ∧ n0 ≤ az ∧ h0.size ≤ az

theorem rm23_U1 (l : Launch) (Z : State) (a0 : Array Value) (hw : HW a0 Z) (ws : List Jvm.Cond) (a1 : Addr) (p2 p3 : Int32) (kc : ClassId) (c0 c1 : Int32) (h0 : Heap) (n0 : Nat) (Z0 : n0 ≤ h0.size) (V_a1 : Arv Z h0 a1 kc .char (2 : Int32) [(.int c0), (.int c1)] (.int 0)) (sA : sta0 Z h0 (.int 1)) (sH : sta1 Z h0 (.int 0)) (sL : sta2 Z h0 (.int 8)) (hp2 : p2 = (0 : Int32)) (hp3 : p3 = (2 : Int32)) (h0_ : ¬ (255 : Int32) < c0) (h1_ : (255 : Int32) < c1) (hb0 : ¬ c0 < 0 ∧ ¬ (65535 : Int32) < c0) (hb1 : ¬ c1 < 0 ∧ ¬ (65535 : Int32) < c1) :
    MF l Z h0 mn20 kb4 6 (some (.array .byte)) ws ({ frames := 3, cells := 2, slots := 6, locals := 40 } : Room) #[(.ref a1), (.int p2), (.int p3)] (Qrm23_U1 Z a1 p2 p3 kc c0 c1 h0 n0) := by
  refine own_go "java/lang/StringUTF16" rfl #[rv a1, iv p2, iv p3, un, un, un] (fun m => ef_23 m a1 p2 p3) (plainFor_of_name pn_2) ?_
  intro p e s m below meth c s₁ S0 Bd hx hby hml hown hZ X0 e0 pre0
  have N0 := Fr.nil n0
  subst hp2
  subst hp3
  have pre1 : PQ p e below m S0 s₁ 1 #[rv a1, iv 0, iv 2, un, un, un] [(.int 2)] := by
    intro t kt
    refine pre0 t ?_
    refine ow_iloadN X0.here hx hby d23_0 rfl ?_
    exact kt
  obtain ⟨T2, h2, k2, X2, e2, E2, A2, st2⟩ := newP X0 hx hZ (wi hw 7 rfl) e0 (g := (mkF m 1 #[rv a1, iv 0, iv 2, un, un, un] [(.int 2)])) rfl (hb hby d23_1) rfl (by decide) (cap := 2) (by decide) (by decide) (by decide) (by decide)
  obtain ⟨b2, g2⟩ : ∃ z, z = h0.size := ⟨_, rfl⟩
  have ne_a1_b2 : a1 ≠ b2 := Nat.ne_of_lt (Nat.lt_of_lt_of_le V_a1.lt (Nat.le_of_eq g2.symm))
  have g_b2 : n0 ≤ b2 := Nat.le_trans Z0 (Nat.le_of_eq g2.symm)
  have sz_b2 : h0.size ≤ b2 := Nat.le_trans (Keep.refl h0 []).1 (Nat.le_of_eq g2.symm)
  rw [← g2] at A2 st2
  have K2 := (Keep.refl h0 []).ext E2
  have Z2 := Nat.le_trans Z0 E2.1
  have V_a1_3 := V_a1.ext E2
  have sA_4 := sA.ext E2
  have sH_5 := sH.ext E2
  have sL_6 := sL.ext E2
  have V_b2 : Arv Z h2 b2 k2 .byte (2 : Int32) [(.int 0), (.int 0)] (.int 0) := (Arv.new A2 (by decide)).pad (pad_rep [] (.int 0) 2)
  have pre2 : PQ p e below m S0 T2 3 #[rv a1, iv 0, iv 2, un, un, un] [(.ref b2)] := fun t kt => pre1 t (st2 _ kt)
  have pre7 : PQ p e below m S0 T2 9 #[rv a1, iv 0, iv 2, rv b2, un, un] [(.int 2), (.int 0), (.ref b2), (.int 0), (.ref a1)] := by
    intro t kt
    refine pre2 t ?_
    refine ow_astoreN X2.here hx hby d23_3 rfl (l' := #[rv a1, iv 0, iv 2, rv b2, un, un]) rfl ?_
    refine ow_aloadN X2.here hx hby d23_4 rfl rfl ?_
    refine ow_iloadN X2.here hx hby d23_5 rfl ?_
    refine ow_aloadN X2.here hx hby d23_6 rfl rfl ?_
    refine ow_iconst X2.here hx hby d23_7 (v := 0) rfl ?_
    refine ow_iloadN X2.here hx hby d23_8 rfl ?_
    exact kt
  obtain ⟨_, _, ⟨T8, L8, k8, n8⟩, -, X8, ⟨Lc8, hQ8, l8, y8, z8⟩, st8⟩ := Jvm.LawKit.callS X2 hx (y := mn19) hown (mw hZ hw 116 rfl) (mw hZ hw 117 rfl) (mw hZ hw 114 rfl) (mw hZ hw 118 rfl) (by decide) (backOf (W := 0) (rm24_U1 l Z a0 hw [] a1 (0 : Int32) b2 (0 : Int32) (2 : Int32) kc c0 c1 k2 (0 : Int32) (0 : Int32) h2 n0 Z2 V_a1_3 V_b2 g_b2 ne_a1_b2 (rfl) (rfl) (rfl) (h0_) (h1_)) hZ (wi hw 118 rfl) (wi hw 114 rfl) (by decide) (by decide)) (g := (mkF m 9 #[rv a1, iv 0, iv 2, rv b2, un, un] [(.int 2), (.int 0), (.ref b2), (.int 0), (.ref a1)])) rfl (by rw [hml]; rfl) (argsL := [(.ref a1), (.int 0), (.ref b2), (.int 0), (.int 2)]) (rest := []) (lenOf pd_20 rfl) rfl (by show 2 * 0 + _ ≤ _; exact Nat.le_of_eq rfl) (hb hby d23_9) (fun _ _ => ⟨rfl, e2, (by decide : 1 + 0 ≤ _), (by decide : 2 + 0 ≤ _)⟩)
  dsimp only [Pt.U, Pt.locs, Pt.cells, Pt.slots] at X8 l8 y8 z8 st8 hQ8
  subst l8 y8 z8
  obtain ⟨rfl, N8q, KC8, P8_0⟩ := hQ8
  have N8 := Fr.app N0 N8q
  have Z8 : n0 ≤ T8.heap.size := Nat.le_trans Z2 KC8.1
  have K8 := K2.trans KC8 (allS (Or.inr sz_b2) all0)
  have V_a1_9 := V_a1_3.keep KC8 (ninS ne_a1_b2 nin0)
  have sA_10 := own_stak sA_4 KC8 (nsS V_b2.nostat ns0)
  have sH_11 := own_stak sH_5 KC8 (nsS V_b2.nostat ns0)
  have sL_12 := own_stak sL_6 KC8 (nsS V_b2.nostat ns0)
  have V_b2_8 : Arv Z T8.heap b2 k2 .byte (2 : Int32) [(.int (own_b c0)), (.int 0)] (.int 0) := P8_0
  have pre8 : PQ p e below m S0 T8 12 #[rv a1, iv 0, iv 2, rv b2, un, un] [(.int 1)] := fun t kt => pre7 t (st8 _ kt)
  have pre14 : PQ p e below m S0 T8 23 #[rv a1, iv 0, iv 2, rv b2, iv 1, un] [(.int 2), (.int 0), (.ref a1)] := by
    intro t kt
    refine pre8 t ?_
    refine ow_istore X8.here hx hby d23_12 (l' := #[rv a1, iv 0, iv 2, rv b2, iv 1, un]) rfl ?_
    refine ow_iload X8.here hx hby d23_14 rfl ?_
    refine ow_iloadN X8.here hx hby d23_16 rfl ?_
    refine ow_icmpNo X8.here hx hby d23_17 (feq (by decide)).1 ?_
    refine ow_aloadN X8.here hx hby d23_20 rfl rfl ?_
    refine ow_iloadN X8.here hx hby d23_21 rfl ?_
    refine ow_iloadN X8.here hx hby d23_22 rfl ?_
    exact kt
  obtain ⟨_, _, ⟨T15, L15, k15, n15⟩, -, X15, ⟨Lc15, hQ15, l15, y15, z15⟩, st15⟩ := Jvm.LawKit.callS X8 hx (y := mn38) hown (mw hZ hw 119 rfl) (mw hZ hw 120 rfl) (mw hZ hw 114 rfl) (mw hZ hw 121 rfl) (by decide) (backOf (W := 0) (rm25 l Z a0 hw [] a1 (0 : Int32) (2 : Int32) kc c0 c1 T8.heap n0 Z8 V_a1_9 sA_10 sH_11 sL_12 (rfl) (rfl)) hZ (wi hw 121 rfl) (wi hw 114 rfl) (by decide) (by decide)) (g := (mkF m 23 #[rv a1, iv 0, iv 2, rv b2, iv 1, un] [(.int 2), (.int 0), (.ref a1)])) rfl (by rw [hml]; rfl) (argsL := [(.ref a1), (.int 0), (.int 2)]) (rest := []) (lenOf pd_21 rfl) rfl (by show 2 * 0 + _ ≤ _; exact Nat.le_of_eq rfl) (hb hby d23_23) (fun _ _ => ⟨rfl, rfl, (by decide : 1 + 1 ≤ _), (by decide : 2 + 4 ≤ _)⟩)
  dsimp only [Pt.U, Pt.locs, Pt.cells, Pt.slots] at X15 l15 y15 z15 st15 hQ15
  subst l15 y15 z15
  obtain ⟨az_15, kz_15, rfl, N15q, KC15, P15_0, R15_0, R15_1⟩ := hQ15
  have N15 := Fr.app N8 N15q
  have Z15 : n0 ≤ T15.heap.size := Nat.le_trans Z8 KC15.1
  have K15 := K8.trans KC15 all0
  have V_a1_16 := V_a1_9.keep KC15 nin0
  have sA_17 := own_stak sA_10 KC15 ns0
  have sH_18 := own_stak sH_11 KC15 ns0
  have sL_19 := own_stak sL_12 KC15 ns0
  have V_b2_8_20 := V_b2_8.keep KC15 nin0
  have ne_a1_az_15 : a1 ≠ az_15 := Nat.ne_of_lt (Nat.lt_of_lt_of_le V_a1_9.lt R15_1)
  have ne_b2_az_15 : b2 ≠ az_15 := Nat.ne_of_lt (Nat.lt_of_lt_of_le V_b2_8.lt R15_1)
  have V_az_15_15 : Arv Z T15.heap az_15 kz_15 .byte (4 : Int32) [(.int (own_lo c0)), (.int (own_hi c0)), (.int (own_lo c1)), (.int (own_hi c1))] (.int 0) := P15_0
  have pre15 : PQ p e below m S0 T15 26 #[rv a1, iv 0, iv 2, rv b2, iv 1, un] [(.ref az_15)] := fun t kt => pre14 t (st15 _ kt)
  have pre21 : PQ p e below m S0 T15 32 #[rv a1, iv 0, iv 2, rv b2, iv 1, rv az_15] [(.int 1), (.ref az_15)] := by
    intro t kt
    refine pre15 t ?_
    refine ow_astore X15.here hx hby d23_26 rfl (l' := #[rv a1, iv 0, iv 2, rv b2, iv 1, rv az_15]) rfl ?_
    refine ow_aload X15.here hx hby d23_28 rfl rfl ?_
    refine ow_iload X15.here hx hby d23_30 rfl ?_
    exact kt
  obtain ⟨_, _, ⟨T22, L22, k22, n22⟩, -, X22, ⟨Lc22, hQ22, l22, y22, z22⟩, st22⟩ := Jvm.LawKit.callS X15 hx (y := mn6) hown (mw hZ hw 135 rfl) (mw hZ hw 136 rfl) (mw hZ hw 114 rfl) (mw hZ hw 137 rfl) (by decide) (backOf (W := 0) (rm29_21 l Z a0 hw [] az_15 (1 : Int32) kz_15 (own_lo c0) (own_hi c0) (own_lo c1) (own_hi c1) T15.heap n0 Z15 V_az_15_15 sA_17 sH_18 sL_19 (rfl)) hZ (wi hw 137 rfl) (wi hw 114 rfl) (by decide) (by decide)) (g := (mkF m 32 #[rv a1, iv 0, iv 2, rv b2, iv 1, rv az_15] [(.int 1), (.ref az_15)])) rfl (by rw [hml]; rfl) (argsL := [(.ref az_15), (.int 1)]) (rest := []) (lenOf pd_4 rfl) rfl (by show 2 * 0 + _ ≤ _; exact Nat.le_of_eq rfl) (hb hby d23_32) (fun _ _ => ⟨rfl, rfl, (by decide : 2 + 0 ≤ _), (by decide : 6 + 0 ≤ _)⟩)
  dsimp only [Pt.U, Pt.locs, Pt.cells, Pt.slots] at X22 l22 y22 z22 st22 hQ22
  subst l22 y22 z22
  obtain ⟨rfl, N22q, e22⟩ := hQ22
  have N22 := Fr.app N15 N22q
  have pre22 : PQ p e below m S0 T22 35 #[rv a1, iv 0, iv 2, rv b2, iv 1, rv az_15] [(.int (own_pr (own_lo c1) (own_hi c1)))] := fun t kt => pre21 t (st22 _ kt)
  have pre23 : PQ p e below m S0 T22 56 #[rv a1, iv 0, iv 2, rv b2, iv 1, rv az_15] [(.ref az_15)] := by
    intro t kt
    refine pre22 t ?_
    refine ow_sipush X22.here hx hby d23_35 (v := 255) rfl ?_
    refine ow_icmpYes X22.here hx hby d23_38 (tlt (by rw [own_prs hb1]; exact h1_)).2.2.1 (pc' := 54) (by decide) (by decide) ?_
    refine ow_aload X22.here hx hby d23_54 rfl rfl ?_
    exact kt
  obtain ⟨fs, hr, hu, hd, hW, hme⟩ := X22.leave (v := some (.ref az_15)) (fun h => by rw [Bd.returns] at h; cases h)
  refine ⟨_, _, pre23 _ ?_, hu, hd, _, _, rfl, ?_, ⟨_, rfl⟩, hW, hme.mono (by decide) (by decide)⟩
  · show SQ p e below m T22 56 #[rv a1, iv 0, iv 2, rv b2, iv 1, rv az_15] [(.ref az_15)] _
    jvm_step X22.here [X22.here.top, hx, (hb hby d23_56), X22.method', Bd.returns, Value.isRef, FieldType.isReference]
    first | (intro acts; rw [hr _ acts rfl rfl rfl]) | rw [hr _ _ rfl rfl rfl]
    exact Steps.refl _
  · show Qrm23_U1 Z a1 (0 : Int32) (2 : Int32) kc c0 c1 h0 n0 _ T22.heap _
    rw [e22]
    exact ⟨az_15, kz_15, rfl, N22, K15, V_az_15_15, R15_0, (Nat.le_trans K8.1 R15_1)⟩
def Qrm30_2 (Z : State) (a1 : Addr) (p2 : Int32) (kd : ClassId) (vs : List Value) (h0 : Heap) (n0 : Nat) (v : Option Value) (h : Heap) (L : List Loc) : Prop := v = some (.int 0) ∧ Fr n0 L ∧ h = h0
theorem d30_0 : decode kb30 0 = .ok (.iload_n 1, 1) := by decide +kernel
theorem d30_1 : decode kb30 1 = .ok (.aload_n 0, 1) := by decide +kernel
theorem d30_2 : decode kb30 2 = .ok (.arraylength, 1) := by decide +kernel
theorem d30_3 : decode kb30 3 = .ok (.isub, 1) := by decide +kernel
theorem d30_4 : decode kb30 4 = .ok (.bipush 31, 2) := by decide +kernel
theorem d30_6 : decode kb30 6 = .ok (.iushr, 1) := by decide +kernel
theorem d30_7 : decode kb30 7 = .ok (.i2b, 1) := by decide +kernel
theorem d30_8 : decode kb30 8 = .ok (.ireturn, 1) := by decide +kernel
theorem ef_30 (m : MethodId) (x0 : Addr) (x1 : Int32) : entryFrame m #[(.ref x0), (.int x1)] 2 = mkF m 0 #[rv x0, iv x1] [] := by first | (simp [entryFrame, mkF, argsToLocals, Value.category]; done) | rfl
theorem rm30_2 (l : Launch) (Z : State) (a0 : Array Value) (hw : HW a0 Z) (ws : List Jvm.Cond) (a1 : Addr) (p2 : Int32) (kd : ClassId) (vs : List Value) (h0 : Heap) (n0 : Nat) (Z0 : n0 ≤ h0.size) (V_a1 : Arv Z h0 a1 kd .byte (2 : Int32) vs (.int 0)) (hp2 : p2 = (2 : Int32)) :
    MF l Z h0 mn22 kb30 2 (some .byte) ws ro0 #[(.ref a1), (.int p2)] (Qrm30_2 Z a1 p2 kd vs h0 n0) := by
  refine own_go "java/lang/StringUTF16" rfl #[rv a1, iv p2] (fun m => ef_30 m a1 p2) (plainFor_of_name pn_2) ?_
  intro p e s m below meth c s₁ S0 Bd hx hby hml hown hZ X0 e0 pre0
  have N0 := Fr.nil n0
  subst hp2
  have pre2 : PQ p e below m S0 s₁ 8 #[rv a1, iv 2] [(.int 0)] := by
    intro t kt
    refine pre0 t ?_
    refine ow_iloadN X0.here hx hby d30_0 rfl ?_
    refine ow_aloadN X0.here hx hby d30_1 rfl rfl ?_
    obtain ⟨cl1, Ar1, -, S1, M1, -, -⟩ := (id V_a1)
    refine X0.arraylength hx (by rw [e0]; exact Ar1.1) (State.isArrayOf_alike hZ.alike Ar1.2.1) (g := (mkF m 2 #[rv a1, iv 2] [(.ref a1), (.int 2)])) rfl rfl (hb hby d30_2) _ ?_
    rw [len_of S1 M1]
    show SQ p e below m s₁ 3 #[rv a1, iv 2] [(.int 2), (.int 2)] _
    refine ow_isub X0.here hx hby d30_3 ?_
    show SQ p e below m s₁ 4 #[rv a1, iv 2] [(.int 0)] _
    refine ow_bipush X0.here hx hby d30_4 (v := 31) rfl ?_
    refine XS.iushr X0.here hx rfl (hb hby d30_6) rfl ?_
    show SQ p e below m s₁ 7 #[rv a1, iv 2] [(.int 0)] _
    refine XS.i2b X0.here hx rfl (hb hby d30_7) rfl ?_
    exact kt
  obtain ⟨fs, hr, hu, hd, hW, hme⟩ := X0.leave (v := some (.int 0)) (fun h => by rw [Bd.returns] at h; cases h)
  refine ⟨_, _, pre2 _ ?_, hu, hd, _, _, rfl, ?_, ⟨_, rfl⟩, hW, hme.mono (by decide) (by decide)⟩
  · show SQ p e below m s₁ 8 #[rv a1, iv 2] [(.int 0)] _
    exact retN X0 hx (t := .byte) Bd.returns (by simp) (hb hby d30_8) hr
  · show Qrm30_2 Z a1 (2 : Int32) kd vs h0 n0 _ s₁.heap _
    rw [e0]
    exact ⟨rfl, N0, rfl⟩
def Qrm30_4 (Z : State) (a1 : Addr) (p2 : Int32) (kd : ClassId) (vs : List Value) (h0 : Heap) (n0 : Nat) (v : Option Value) (h : Heap) (L : List Loc) : Prop := v = some (.int 1) ∧ Fr n0 L ∧ h = h0

theorem rm30_4 (l : Launch) (Z : State) (a0 : Array Value) (hw : HW a0 Z) (ws : List Jvm.Cond) (a1 : Addr) (p2 : Int32) (kd : ClassId) (vs : List Value) (h0 : Heap) (n0 : Nat) (Z0 : n0 ≤ h0.size) (V_a1 : Arv Z h0 a1 kd .byte (4 : Int32) vs (.int 0)) (hp2 : p2 = (2 : Int32)) :
    MF l Z h0 mn22 kb30 2 (some .byte) ws ro0 #[(.ref a1), (.int p2)] (Qrm30_4 Z a1 p2 kd vs h0 n0) := by
  refine own_go "java/lang/StringUTF16" rfl #[rv a1, iv p2] (fun m => ef_30 m a1 p2) (plainFor_of_name pn_2) ?_
  intro p e s m below meth c s₁ S0 Bd hx hby hml hown hZ X0 e0 pre0
  have N0 := Fr.nil n0
  subst hp2
  have pre2 : PQ p e below m S0 s₁ 8 #[rv a1, iv 2] [(.int 1)] := by
    intro t kt
    refine pre0 t ?_
    refine ow_iloadN X0.here hx hby d30_0 rfl ?_
    refine ow_aloadN X0.here hx hby d30_1 rfl rfl ?_
    obtain ⟨cl1, Ar1, -, S1, M1, -, -⟩ := (id V_a1)
    refine X0.arraylength hx (by rw [e0]; exact Ar1.1) (State.isArrayOf_alike hZ.alike Ar1.2.1) (g := (mkF m 2 #[rv a1, iv 2] [(.ref a1), (.int 2)])) rfl rfl (hb hby d30_2) _ ?_
    rw [len_of S1 M1]
    show SQ p e below m s₁ 3 #[rv a1, iv 2] [(.int 4), (.int 2)] _
    refine ow_isub X0.here hx hby d30_3 ?_
    show SQ p e below m s₁ 4 #[rv a1, iv 2] [(.int (-2 : Int32))] _
    refine ow_bipush X0.here hx hby d30_4 (v := 31) rfl ?_
    refine XS.iushr X0.here hx rfl (hb hby d30_6) rfl ?_
    show SQ p e below m s₁ 7 #[rv a1, iv 2] [(.int 1)] _
    refine XS.i2b X0.here hx rfl (hb hby d30_7) rfl ?_
    exact kt
  obtain ⟨fs, hr, hu, hd, hW, hme⟩ := X0.leave (v := some (.int 1)) (fun h => by rw [Bd.returns] at h; cases h)
  refine ⟨_, _, pre2 _ ?_, hu, hd, _, _, rfl, ?_, ⟨_, rfl⟩, hW, hme.mono (by decide) (by decide)⟩
  · show SQ p e below m s₁ 8 #[rv a1, iv 2] [(.int 1)] _
    exact retN X0 hx (t := .byte) Bd.returns (by simp) (hb hby d30_8) hr
  · show Qrm30_4 Z a1 (2 : Int32) kd vs h0 n0 _ s₁.heap _
    rw [e0]
    exact ⟨rfl, N0, rfl⟩
def Qrm22_L (Z : State) (a1 a2 : Addr) (p3 p4 : Int32) (kc : ClassId) (c0 c1 cz : Int32) (h0 : Heap) (n0 : Nat) (v : Option Value) (h : Heap) (L : List Loc) : Prop := ∃ (tz : Addr) (kz : ClassId), v = none ∧ Fr n0 L ∧ Keep h0 h [a1] ∧ exa0 Z h a1 ∧ fld1 Z h a1 (.ref tz) ∧ fld0 Z h a1 (.int 0) ∧ Arv Z h tz kz .byte (2 : Int32) [(.int (own_b c0)), (.int (own_b c1))] (.int 0)
theorem d22_0 : decode kb12 0 = .ok (.aload_n 0, 1) := by decide +kernel
theorem d22_1 : decode kb12 1 = .ok (.invokespecial 1, 3) := by decide +kernel
theorem d22_4 : decode kb12 4 = .ok (.iload_n 3, 1) := by decide +kernel
theorem d22_5 : decode kb12 5 = .ok (.ifCond .ne 22, 3) := by decide +kernel
theorem d22_27 : decode kb12 27 = .ok (.getstatic 38, 3) := by decide +kernel
theorem d22_30 : decode kb12 30 = .ok (.ifCond .eq 28, 3) := by decide +kernel
theorem d22_33 : decode kb12 33 = .ok (.aload_n 1, 1) := by decide +kernel
theorem d22_34 : decode kb12 34 = .ok (.iload_n 2, 1) := by decide +kernel
theorem d22_35 : decode kb12 35 = .ok (.iload_n 3, 1) := by decide +kernel
theorem d22_36 : decode kb12 36 = .ok (.invokestatic 177, 3) := by decide +kernel
theorem d22_39 : decode kb12 39 = .ok (.astore 5, 2) := by decide +kernel
theorem d22_41 : decode kb12 41 = .ok (.aload_n 0, 1) := by decide +kernel
theorem d22_42 : decode kb12 42 = .ok (.aload 5, 2) := by decide +kernel
theorem d22_44 : decode kb12 44 = .ok (.iload_n 3, 1) := by decide +kernel
theorem d22_45 : decode kb12 45 = .ok (.invokestatic 47, 3) := by decide +kernel
theorem d22_48 : decode kb12 48 = .ok (.putfield 15, 3) := by decide +kernel
theorem d22_51 : decode kb12 51 = .ok (.aload_n 0, 1) := by decide +kernel
theorem d22_52 : decode kb12 52 = .ok (.aload 5, 2) := by decide +kernel
theorem d22_54 : decode kb12 54 = .ok (.putfield 9, 3) := by decide +kernel
theorem d22_57 : decode kb12 57 = .ok (.return_, 1) := by decide +kernel
theorem ef_22 (m : MethodId) (x0 x1 : Addr) (x2 x3 : Int32) : entryFrame m #[(.ref x0), (.ref x1), (.int x2), (.int x3), .null] 6 = mkF m 0 #[rv x0, rv x1, iv x2, iv x3, .val .null, un] [] := by first | (simp [entryFrame, mkF, argsToLocals, Value.category]; done) | rfl
theorem rm22_L (l : Launch) (Z : State) (a0 : Array Value) (hw : HW a0 Z) (ws : List Jvm.Cond) (a1 a2 : Addr) (p3 p4 : Int32) (kc : ClassId) (c0 c1 cz : Int32) (h0 : Heap) (n0 : Nat) (Z0 : n0 ≤ h0.size) (E_a1 : exa0 Z h0 a1) (Fv_a1 : fld1 Z h0 a1 .null) (Fc_a1 : fld0 Z h0 a1 (.int 0)) (V_a2 : Arv Z h0 a2 kc .char (2 : Int32) [(.int c0), (.int c1)] (.int 0)) (sC : sta4 Z h0 (.int cz)) (sA : sta0 Z h0 (.int 1)) (sH : sta1 Z h0 (.int 0)) (sL : sta2 Z h0 (.int 8)) (ge_a1 : n0 ≤ a1) (ne_a1_a2 : a1 ≠ a2) (hCS : ¬ (cz = (0 : Int32))) (hp3 : p3 = (0 : Int32)) (hp4 : p4 = (2 : Int32)) (h0_ : ¬ (255 : Int32) < c0) (h1_ : ¬ (255 : Int32) < c1) (hb0 : ¬ c0 < 0 ∧ ¬ (65535 : Int32) < c0) (hb1 : ¬ c1 < 0 ∧ ¬ (65535 : Int32) < c1) :
    MF l Z h0 mn36 kb12 6 none ws ({ frames := 2, cells := 1, slots := 2, locals := 35 } : Room) #[(.ref a1), (.ref a2), (.int p3), (.int p4), .null] (Qrm22_L Z a1 a2 p3 p4 kc c0 c1 cz h0 n0) := by
  refine own_go "java/lang/String" rfl #[rv a1, rv a2, iv p3, iv p4, .val .null, un] (fun m => ef_22 m a1 a2 p3 p4) (plainFor_of_name pn_4) ?_
  intro p e s m below meth c s₁ S0 Bd hx hby hml hown hZ X0 e0 pre0
  have hnm := (name_of_methodNamed Bd.named Bd.method).1
  have N0 := Fr.nil n0
  subst hp3
  subst hp4
  have pre1 : PQ p e below m S0 s₁ 1 #[rv a1, rv a2, iv 0, iv 2, .val .null, un] [(.ref a1)] := by
    intro t kt
    refine pre0 t ?_
    refine ow_aloadN X0.here hx hby d22_0 rfl rfl ?_
    exact kt
  obtain ⟨T2, X2, e2, st2⟩ := initO X0 hx hZ hown (wi hw 70 rfl) (wi hw 24 rfl) (wi hw 25 rfl) e0 (g := (mkF m 1 #[rv a1, rv a2, iv 0, iv 2, .val .null, un] [(.ref a1)])) rfl (by rw [hml]; rfl) rfl (hb hby d22_1) (by decide) (W := 0) (by show 2 * 0 + _ ≤ _; exact Nat.le_of_eq rfl) (by decide)
  have pre2 : PQ p e below m S0 T2 4 #[rv a1, rv a2, iv 0, iv 2, .val .null, un] [] := fun t kt => pre1 t (st2 _ kt)
  have pre3 : PQ p e below m S0 T2 27 #[rv a1, rv a2, iv 0, iv 2, .val .null, un] [] := by
    intro t kt
    refine pre2 t ?_
    refine ow_iloadN X2.here hx hby d22_4 rfl ?_
    refine ow_ifYes X2.here hx hby d22_5 ((if0 _ _).trans (feq (by decide)).2) (pc' := 27) (by decide) (by decide) ?_
    exact kt
  obtain ⟨T4, X4, e4, st4⟩ := getS2 X2 hx hZ hown (host := "") (Or.inl (wi hw 41 rfl)) Via.refl e2 sC (g := (mkF m 27 #[rv a1, rv a2, iv 0, iv 2, .val .null, un] [])) rfl (hb hby d22_27)
  have pre4 : PQ p e below m S0 T4 30 #[rv a1, rv a2, iv 0, iv 2, .val .null, un] [(.int cz)] := fun t kt => pre3 t (st4 _ kt)
  have pre5 : PQ p e below m S0 T4 36 #[rv a1, rv a2, iv 0, iv 2, .val .null, un] [(.int 2), (.int 0), (.ref a2)] := by
    intro t kt
    refine pre4 t ?_
    refine ow_ifNo X4.here hx hby d22_30 ((if0 _ _).trans (feq hCS).1) ?_
    refine ow_aloadN X4.here hx hby d22_33 rfl rfl ?_
    refine ow_iloadN X4.here hx hby d22_34 rfl ?_
    refine ow_iloadN X4.here hx hby d22_35 rfl ?_
    exact kt
  obtain ⟨_, _, ⟨T6, L6, k6, n6⟩, -, X6, ⟨Lc6, hQ6, l6, y6, z6⟩, st6⟩ := Jvm.LawKit.callS X4 hx (y := mn20) hown (mw hZ hw 112 rfl) (mw hZ hw 113 rfl) (mw hZ hw 114 rfl) (mw hZ hw 115 rfl) (by decide) (backOf (W := 0) (rm23_L l Z a0 hw [] a2 (0 : Int32) (2 : Int32) kc c0 c1 h0 n0 Z0 V_a2 sA sH sL (rfl) (rfl) (h0_) (h1_) (hb0) (hb1)) hZ (wi hw 115 rfl) (wi hw 114 rfl) (by decide) (by decide)) (g := (mkF m 36 #[rv a1, rv a2, iv 0, iv 2, .val .null, un] [(.int 2), (.int 0), (.ref a2)])) rfl (by rw [hml]; rfl) (argsL := [(.ref a2), (.int 0), (.int 2)]) (rest := []) (lenOf pd_21 rfl) rfl (by show 2 * 0 + _ ≤ _; exact Nat.le_of_eq rfl) (hb hby d22_36) (fun _ _ => ⟨rfl, e4, (by decide : 0 + 1 ≤ _), (by decide : 0 + 2 ≤ _)⟩)
  dsimp only [Pt.U, Pt.locs, Pt.cells, Pt.slots] at X6 l6 y6 z6 st6 hQ6
  subst l6 y6 z6
  obtain ⟨az_6, kz_6, rfl, N6q, KC6, P6_0, R6_0, R6_1⟩ := hQ6
  have N6 := Fr.app N0 N6q
  have Z6 : n0 ≤ T6.heap.size := Nat.le_trans Z0 KC6.1
  have K6 := (Keep.refl h0 [a1]).trans KC6 all0
  have E_a1_7 := E_a1.keep KC6
  have Fv_a1_8 := Fv_a1.keep KC6 nin0
  have Fc_a1_9 := Fc_a1.keep KC6 nin0
  have V_a2_10 := V_a2.keep KC6 nin0
  have sC_11 := own_stak sC KC6 ns0
  have sA_12 := own_stak sA KC6 ns0
  have sH_13 := own_stak sH KC6 ns0
  have sL_14 := own_stak sL KC6 ns0
  have ne_a1_az_6 : a1 ≠ az_6 := Nat.ne_of_lt (Nat.lt_of_lt_of_le Fc_a1.lt R6_1)
  have ne_a2_az_6 : a2 ≠ az_6 := Nat.ne_of_lt (Nat.lt_of_lt_of_le V_a2.lt R6_1)
  have V_az_6_6 : Arv Z T6.heap az_6 kz_6 .byte (2 : Int32) [(.int (own_b c0)), (.int (own_b c1))] (.int 0) := P6_0
  have pre6 : PQ p e below m S0 T6 39 #[rv a1, rv a2, iv 0, iv 2, .val .null, un] [(.ref az_6)] := fun t kt => pre5 t (st6 _ kt)
  have pre15 : PQ p e below m S0 T6 45 #[rv a1, rv a2, iv 0, iv 2, .val .null, rv az_6] [(.int 2), (.ref az_6), (.ref a1)] := by
    intro t kt
    refine pre6 t ?_
    refine ow_astore X6.here hx hby d22_39 rfl (l' := #[rv a1, rv a2, iv 0, iv 2, .val .null, rv az_6]) rfl ?_
    refine ow_aloadN X6.here hx hby d22_41 rfl rfl ?_
    refine ow_aload X6.here hx hby d22_42 rfl rfl ?_
    refine ow_iloadN X6.here hx hby d22_44 rfl ?_
    exact kt
  obtain ⟨_, _, ⟨T16, L16, k16, n16⟩, -, X16, ⟨Lc16, hQ16, l16, y16, z16⟩, st16⟩ := Jvm.LawKit.callS X6 hx (y := mn22) hown (mw hZ hw 138 rfl) (mw hZ hw 139 rfl) (mw hZ hw 114 rfl) (mw hZ hw 140 rfl) (by decide) (backOf (W := 1) (rm30_2 l Z a0 hw [] az_6 (2 : Int32) kz_6 [(.int (own_b c0)), (.int (own_b c1))] T6.heap n0 Z6 V_az_6_6 (rfl)) hZ (wi hw 140 rfl) (wi hw 114 rfl) (by decide) (by decide)) (g := (mkF m 45 #[rv a1, rv a2, iv 0, iv 2, .val .null, rv az_6] [(.int 2), (.ref az_6), (.ref a1)])) rfl (by rw [hml]; rfl) (argsL := [(.ref az_6), (.int 2)]) (rest := [(.ref a1)]) (lenOf pd_22 rfl) rfl (by show 2 * 0 + _ ≤ _; exact Nat.le_of_eq rfl) (hb hby d22_45) (fun _ _ => ⟨rfl, rfl, (by decide : 1 + 0 ≤ _), (by decide : 2 + 0 ≤ _)⟩)
  dsimp only [Pt.U, Pt.locs, Pt.cells, Pt.slots] at X16 l16 y16 z16 st16 hQ16
  subst l16 y16 z16
  obtain ⟨rfl, N16q, e16⟩ := hQ16
  have N16 := Fr.app N6 N16q
  have pre16 : PQ p e below m S0 T16 48 #[rv a1, rv a2, iv 0, iv 2, .val .null, rv az_6] [(.int 0), (.ref a1)] := fun t kt => pre15 t (st16 _ kt)
  obtain ⟨T17, h17, X17, e17, W17, st17⟩ := putFN X16 hx hZ hown (wi hw 42 rfl) Via.refl e16 Fc_a1_9 E_a1_7 (Or.inr ⟨(wi hw 9 rfl), rfl, hnm⟩) (wi hw 6 rfl) (ty := .byte) (v' := (.int 0)) (by decide) rfl rfl (g := (mkF m 48 #[rv a1, rv a2, iv 0, iv 2, .val .null, rv az_6] [(.int 0), (.ref a1)])) rfl rfl (hb hby d22_48)
  have N17 := Fr.snoc X17 N16 ge_a1
  have K17 := K6.wr W17 (Or.inl (List.mem_of_getElem? (i := 0) rfl))
  have Z17 := Nat.le_trans Z6 (Keep.of_wr W17).1
  have E_a1_18 := E_a1_7.wr W17
  have Fv_a1_19 := Fv_a1_8.other W17 (Or.inr (slot_ne (Or.inr (wi hw 8 rfl)) (Or.inr (wi hw 9 rfl)) (by decide) (t := (.array .byte)) (t' := .byte) (by decide) (by decide)))
  have Fc_a1_20 := Fc_a1_9.same W17
  have V_a2_21 := V_a2_10.other W17 (Ne.symm ne_a1_a2)
  have sC_22 := sC_11.wr W17
  have sA_23 := sA_12.wr W17
  have sH_24 := sH_13.wr W17
  have sL_25 := sL_14.wr W17
  have V_az_6_6_26 := V_az_6_6.other W17 (Ne.symm ne_a1_az_6)
  have pre17 : PQ p e below m S0 T17 51 #[rv a1, rv a2, iv 0, iv 2, .val .null, rv az_6] [] := fun t kt => pre16 t (st17 _ kt)
  have pre27 : PQ p e below m S0 T17 54 #[rv a1, rv a2, iv 0, iv 2, .val .null, rv az_6] [(.ref az_6), (.ref a1)] := by
    intro t kt
    refine pre17 t ?_
    refine ow_aloadN X17.here hx hby d22_51 rfl rfl ?_
    refine ow_aload X17.here hx hby d22_52 rfl rfl ?_
    exact kt
  obtain ⟨T28, h28, X28, e28, W28, pre28⟩ := ow_putF pre27 X17 hx hZ hown (host := "") (Or.inl (wi hw 35 rfl)) Via.refl e17 Fv_a1_19 E_a1_18 (Or.inr ⟨(wi hw 8 rfl), rfl, hnm⟩) (wi hw 6 rfl) (ty := (.array .byte)) (by decide) rfl rfl hby d22_54
  have N28 := Fr.snoc X28 N17 ge_a1
  have K28 := K17.wr W28 (Or.inl (List.mem_of_getElem? (i := 0) rfl))
  have Z28 := Nat.le_trans Z17 (Keep.of_wr W28).1
  have E_a1_29 := E_a1_18.wr W28
  have Fv_a1_30 := Fv_a1_19.same W28
  have Fc_a1_31 := Fc_a1_20.other W28 (Or.inr (slot_ne (Or.inr (wi hw 9 rfl)) (Or.inr (wi hw 8 rfl)) (by decide) (t := .byte) (t' := (.array .byte)) (by decide) (by decide)))
  have V_a2_32 := V_a2_21.other W28 (Ne.symm ne_a1_a2)
  have sC_33 := sC_22.wr W28
  have sA_34 := sA_23.wr W28
  have sH_35 := sH_24.wr W28
  have sL_36 := sL_25.wr W28
  have V_az_6_6_37 := V_az_6_6_26.other W28 (Ne.symm ne_a1_az_6)
  obtain ⟨fs, hr, hu, hd, hW, hme⟩ := X28.leave (v := none) (fun _ => rfl)
  refine ⟨_, _, pre28 _ ?_, hu, hd, _, _, rfl, ?_, ⟨_, rfl⟩, hW, hme.mono (by decide) (by decide)⟩
  · show SQ p e below m T28 57 #[rv a1, rv a2, iv 0, iv 2, .val .null, rv az_6] [] _
    exact X28.returnOut hx Bd.returns (hb hby d22_57) hr
  · show Qrm22_L Z a1 a2 (0 : Int32) (2 : Int32) kc c0 c1 cz h0 n0 _ T28.heap _
    rw [e28]
    exact ⟨az_6, kz_6, rfl, N28, K28, E_a1_29, Fv_a1_30, Fc_a1_31, V_az_6_6_37⟩
def Qrm22_U (Z : State) (a1 a2 : Addr) (p3 p4 : Int32) (kc : ClassId) (c0 c1 cz : Int32) (h0 : Heap) (n0 : Nat) (v : Option Value) (h : Heap) (L : List Loc) : Prop := ∃ (tz : Addr) (kz : ClassId), v = none ∧ Fr n0 L ∧ Keep h0 h [a1] ∧ exa0 Z h a1 ∧ fld1 Z h a1 (.ref tz) ∧ fld0 Z h a1 (.int 1) ∧ Arv Z h tz kz .byte (4 : Int32) [(.int (own_lo c0)), (.int (own_hi c0)), (.int (own_lo c1)), (.int (own_hi c1))] (.int 0)

theorem rm22_U (l : Launch) (Z : State) (a0 : Array Value) (hw : HW a0 Z) (ws : List Jvm.Cond) (a1 a2 : Addr) (p3 p4 : Int32) (kc : ClassId) (c0 c1 cz : Int32) (h0 : Heap) (n0 : Nat) (Z0 : n0 ≤ h0.size) (E_a1 : exa0 Z h0 a1) (Fv_a1 : fld1 Z h0 a1 .null) (Fc_a1 : fld0 Z h0 a1 (.int 0)) (V_a2 : Arv Z h0 a2 kc .char (2 : Int32) [(.int c0), (.int c1)] (.int 0)) (sC : sta4 Z h0 (.int cz)) (sA : sta0 Z h0 (.int 1)) (sH : sta1 Z h0 (.int 0)) (sL : sta2 Z h0 (.int 8)) (ge_a1 : n0 ≤ a1) (ne_a1_a2 : a1 ≠ a2) (hCS : ¬ (cz = (0 : Int32))) (hp3 : p3 = (0 : Int32)) (hp4 : p4 = (2 : Int32)) (hU : (255 : Int32) < c0 ∨ (255 : Int32) < c1) (hb0 : ¬ c0 < 0 ∧ ¬ (65535 : Int32) < c0) (hb1 : ¬ c1 < 0 ∧ ¬ (65535 : Int32) < c1) :
    MF l Z h0 mn36 kb12 6 none ws ({ frames := 4, cells := 2, slots := 6, locals := 57 } : Room) #[(.ref a1), (.ref a2), (.int p3), (.int p4), .null] (Qrm22_U Z a1 a2 p3 p4 kc c0 c1 cz h0 n0) := by
  refine own_go "java/lang/String" rfl #[rv a1, rv a2, iv p3, iv p4, .val .null, un] (fun m => ef_22 m a1 a2 p3 p4) (plainFor_of_name pn_4) ?_
  intro p e s m below meth c s₁ S0 Bd hx hby hml hown hZ X0 e0 pre0
  have hnm := (name_of_methodNamed Bd.named Bd.method).1
  have N0 := Fr.nil n0
  subst hp3
  subst hp4
  have pre1 : PQ p e below m S0 s₁ 1 #[rv a1, rv a2, iv 0, iv 2, .val .null, un] [(.ref a1)] := by
    intro t kt
    refine pre0 t ?_
    refine ow_aloadN X0.here hx hby d22_0 rfl rfl ?_
    exact kt
  obtain ⟨T2, X2, e2, st2⟩ := initO X0 hx hZ hown (wi hw 70 rfl) (wi hw 24 rfl) (wi hw 25 rfl) e0 (g := (mkF m 1 #[rv a1, rv a2, iv 0, iv 2, .val .null, un] [(.ref a1)])) rfl (by rw [hml]; rfl) rfl (hb hby d22_1) (by decide) (W := 0) (by show 2 * 0 + _ ≤ _; exact Nat.le_of_eq rfl) (by decide)
  have pre2 : PQ p e below m S0 T2 4 #[rv a1, rv a2, iv 0, iv 2, .val .null, un] [] := fun t kt => pre1 t (st2 _ kt)
  have pre3 : PQ p e below m S0 T2 27 #[rv a1, rv a2, iv 0, iv 2, .val .null, un] [] := by
    intro t kt
    refine pre2 t ?_
    refine ow_iloadN X2.here hx hby d22_4 rfl ?_
    refine ow_ifYes X2.here hx hby d22_5 ((if0 _ _).trans (feq (by decide)).2) (pc' := 27) (by decide) (by decide) ?_
    exact kt
  obtain ⟨T4, X4, e4, st4⟩ := getS2 X2 hx hZ hown (host := "") (Or.inl (wi hw 41 rfl)) Via.refl e2 sC (g := (mkF m 27 #[rv a1, rv a2, iv 0, iv 2, .val .null, un] [])) rfl (hb hby d22_27)
  have pre4 : PQ p e below m S0 T4 30 #[rv a1, rv a2, iv 0, iv 2, .val .null, un] [(.int cz)] := fun t kt => pre3 t (st4 _ kt)
  have pre5 : PQ p e below m S0 T4 36 #[rv a1, rv a2, iv 0, iv 2, .val .null, un] [(.int 2), (.int 0), (.ref a2)] := by
    intro t kt
    refine pre4 t ?_
    refine ow_ifNo X4.here hx hby d22_30 ((if0 _ _).trans (feq hCS).1) ?_
    refine ow_aloadN X4.here hx hby d22_33 rfl rfl ?_
    refine ow_iloadN X4.here hx hby d22_34 rfl ?_
    refine ow_iloadN X4.here hx hby d22_35 rfl ?_
    exact kt
  by_cases h0_ : (255 : Int32) < c0
  · skip
    obtain ⟨_, _, ⟨T6, L6, k6, n6⟩, -, X6, ⟨Lc6, hQ6, l6, y6, z6⟩, st6⟩ := Jvm.LawKit.callS X4 hx (y := mn20) hown (mw hZ hw 112 rfl) (mw hZ hw 113 rfl) (mw hZ hw 114 rfl) (mw hZ hw 115 rfl) (by decide) (backOf (W := 0) (rm23_U0 l Z a0 hw [] a2 (0 : Int32) (2 : Int32) kc c0 c1 h0 n0 Z0 V_a2 sA sH sL (rfl) (rfl) (h0_) (hb0) (hb1)) hZ (wi hw 115 rfl) (wi hw 114 rfl) (by decide) (by decide)) (g := (mkF m 36 #[rv a1, rv a2, iv 0, iv 2, .val .null, un] [(.int 2), (.int 0), (.ref a2)])) rfl (by rw [hml]; rfl) (argsL := [(.ref a2), (.int 0), (.int 2)]) (rest := []) (lenOf pd_21 rfl) rfl (by show 2 * 0 + _ ≤ _; exact Nat.le_of_eq rfl) (hb hby d22_36) (fun _ _ => ⟨rfl, e4, (by decide : 0 + 2 ≤ _), (by decide : 0 + 6 ≤ _)⟩)
    dsimp only [Pt.U, Pt.locs, Pt.cells, Pt.slots] at X6 l6 y6 z6 st6 hQ6
    subst l6 y6 z6
    obtain ⟨az_6, kz_6, rfl, N6q, KC6, P6_0, R6_0, R6_1⟩ := hQ6
    have N6 := Fr.app N0 N6q
    have Z6 : n0 ≤ T6.heap.size := Nat.le_trans Z0 KC6.1
    have K6 := (Keep.refl h0 [a1]).trans KC6 all0
    have E_a1_7 := E_a1.keep KC6
    have Fv_a1_8 := Fv_a1.keep KC6 nin0
    have Fc_a1_9 := Fc_a1.keep KC6 nin0
    have V_a2_10 := V_a2.keep KC6 nin0
    have sC_11 := own_stak sC KC6 ns0
    have sA_12 := own_stak sA KC6 ns0
    have sH_13 := own_stak sH KC6 ns0
    have sL_14 := own_stak sL KC6 ns0
    have ne_a1_az_6 : a1 ≠ az_6 := Nat.ne_of_lt (Nat.lt_of_lt_of_le Fc_a1.lt R6_1)
    have ne_a2_az_6 : a2 ≠ az_6 := Nat.ne_of_lt (Nat.lt_of_lt_of_le V_a2.lt R6_1)
    have V_az_6_6 : Arv Z T6.heap az_6 kz_6 .byte (4 : Int32) [(.int (own_lo c0)), (.int (own_hi c0)), (.int (own_lo c1)), (.int (own_hi c1))] (.int 0) := P6_0
    have pre6 : PQ p e below m S0 T6 39 #[rv a1, rv a2, iv 0, iv 2, .val .null, un] [(.ref az_6)] := fun t kt => pre5 t (st6 _ kt)
    have pre15 : PQ p e below m S0 T6 45 #[rv a1, rv a2, iv 0, iv 2, .val .null, rv az_6] [(.int 2), (.ref az_6), (.ref a1)] := by
      intro t kt
      refine pre6 t ?_
      refine ow_astore X6.here hx hby d22_39 rfl (l' := #[rv a1, rv a2, iv 0, iv 2, .val .null, rv az_6]) rfl ?_
      refine ow_aloadN X6.here hx hby d22_41 rfl rfl ?_
      refine ow_aload X6.here hx hby d22_42 rfl rfl ?_
      refine ow_iloadN X6.here hx hby d22_44 rfl ?_
      exact kt
    obtain ⟨_, _, ⟨T16, L16, k16, n16⟩, -, X16, ⟨Lc16, hQ16, l16, y16, z16⟩, st16⟩ := Jvm.LawKit.callS X6 hx (y := mn22) hown (mw hZ hw 138 rfl) (mw hZ hw 139 rfl) (mw hZ hw 114 rfl) (mw hZ hw 140 rfl) (by decide) (backOf (W := 1) (rm30_4 l Z a0 hw [] az_6 (2 : Int32) kz_6 [(.int (own_lo c0)), (.int (own_hi c0)), (.int (own_lo c1)), (.int (own_hi c1))] T6.heap n0 Z6 V_az_6_6 (rfl)) hZ (wi hw 140 rfl) (wi hw 114 rfl) (by decide) (by decide)) (g := (mkF m 45 #[rv a1, rv a2, iv 0, iv 2, .val .null, rv az_6] [(.int 2), (.ref az_6), (.ref a1)])) rfl (by rw [hml]; rfl) (argsL := [(.ref az_6), (.int 2)]) (rest := [(.ref a1)]) (lenOf pd_22 rfl) rfl (by show 2 * 0 + _ ≤ _; exact Nat.le_of_eq rfl) (hb hby d22_45) (fun _ _ => ⟨rfl, rfl, (by decide : 2 + 0 ≤ _), (by decide : 6 + 0 ≤ _)⟩)
    dsimp only [Pt.U, Pt.locs, Pt.cells, Pt.slots] at X16 l16 y16 z16 st16 hQ16
    subst l16 y16 z16
    obtain ⟨rfl, N16q, e16⟩ := hQ16
    have N16 := Fr.app N6 N16q
    have pre16 : PQ p e below m S0 T16 48 #[rv a1, rv a2, iv 0, iv 2, .val .null, rv az_6] [(.int 1), (.ref a1)] := fun t kt => pre15 t (st16 _ kt)
    obtain ⟨T17, h17, X17, e17, W17, st17⟩ := putFN X16 hx hZ hown (wi hw 42 rfl) Via.refl e16 Fc_a1_9 E_a1_7 (Or.inr ⟨(wi hw 9 rfl), rfl, hnm⟩) (wi hw 6 rfl) (ty := .byte) (v' := (.int 1)) (by decide) rfl rfl (g := (mkF m 48 #[rv a1, rv a2, iv 0, iv 2, .val .null, rv az_6] [(.int 1), (.ref a1)])) rfl rfl (hb hby d22_48)
    have N17 := Fr.snoc X17 N16 ge_a1
    have K17 := K6.wr W17 (Or.inl (List.mem_of_getElem? (i := 0) rfl))
    have Z17 := Nat.le_trans Z6 (Keep.of_wr W17).1
    have E_a1_18 := E_a1_7.wr W17
    have Fv_a1_19 := Fv_a1_8.other W17 (Or.inr (slot_ne (Or.inr (wi hw 8 rfl)) (Or.inr (wi hw 9 rfl)) (by decide) (t := (.array .byte)) (t' := .byte) (by decide) (by decide)))
    have Fc_a1_20 := Fc_a1_9.same W17
    have V_a2_21 := V_a2_10.other W17 (Ne.symm ne_a1_a2)
    have sC_22 := sC_11.wr W17
    have sA_23 := sA_12.wr W17
    have sH_24 := sH_13.wr W17
    have sL_25 := sL_14.wr W17
    have V_az_6_6_26 := V_az_6_6.other W17 (Ne.symm ne_a1_az_6)
    have pre17 : PQ p e below m S0 T17 51 #[rv a1, rv a2, iv 0, iv 2, .val .null, rv az_6] [] := fun t kt => pre16 t (st17 _ kt)
    have pre27 : PQ p e below m S0 T17 54 #[rv a1, rv a2, iv 0, iv 2, .val .null, rv az_6] [(.ref az_6), (.ref a1)] := by
      intro t kt
      refine pre17 t ?_
      refine ow_aloadN X17.here hx hby d22_51 rfl rfl ?_
      refine ow_aload X17.here hx hby d22_52 rfl rfl ?_
      exact kt
    obtain ⟨T28, h28, X28, e28, W28, pre28⟩ := ow_putF pre27 X17 hx hZ hown (host := "") (Or.inl (wi hw 35 rfl)) Via.refl e17 Fv_a1_19 E_a1_18 (Or.inr ⟨(wi hw 8 rfl), rfl, hnm⟩) (wi hw 6 rfl) (ty := (.array .byte)) (by decide) rfl rfl hby d22_54
    have N28 := Fr.snoc X28 N17 ge_a1
    have K28 := K17.wr W28 (Or.inl (List.mem_of_getElem? (i := 0) rfl))
    have Z28 := Nat.le_trans Z17 (Keep.of_wr W28).1
    have E_a1_29 := E_a1_18.wr W28
    have Fv_a1_30 := Fv_a1_19.same W28
    have Fc_a1_31 := Fc_a1_20.other W28 (Or.inr (slot_ne (Or.inr (wi hw 9 rfl)) (Or.inr (wi hw 8 rfl)) (by decide) (t := .byte) (t' := (.array .byte)) (by decide) (by decide)))
    have V_a2_32 := V_a2_21.other W28 (Ne.symm ne_a1_a2)
    have sC_33 := sC_22.wr W28
    have sA_34 := sA_23.wr W28
    have sH_35 := sH_24.wr W28
    have sL_36 := sL_25.wr W28
    have V_az_6_6_37 := V_az_6_6_26.other W28 (Ne.symm ne_a1_az_6)
    obtain ⟨fs, hr, hu, hd, hW, hme⟩ := X28.leave (v := none) (fun _ => rfl)
    refine ⟨_, _, pre28 _ ?_, hu, hd, _, _, rfl, ?_, ⟨_, rfl⟩, hW, hme.mono (by decide) (by decide)⟩
    · show SQ p e below m T28 57 #[rv a1, rv a2, iv 0, iv 2, .val .null, rv az_6] [] _
      exact X28.returnOut hx Bd.returns (hb hby d22_57) hr
    · show Qrm22_U Z a1 a2 (0 : Int32) (2 : Int32) kc c0 c1 cz h0 n0 _ T28.heap _
      rw [e28]
      exact ⟨az_6, kz_6, rfl, N28, K28, E_a1_29, Fv_a1_30, Fc_a1_31, V_az_6_6_37⟩
  · have h1_ := hU.resolve_left h0_
    obtain ⟨_, _, ⟨T38, L38, k38, n38⟩, -, X38, ⟨Lc38, hQ38, l38, y38, z38⟩, st38⟩ := Jvm.LawKit.callS X4 hx (y := mn20) hown (mw hZ hw 112 rfl) (mw hZ hw 113 rfl) (mw hZ hw 114 rfl) (mw hZ hw 115 rfl) (by decide) (backOf (W := 0) (rm23_U1 l Z a0 hw [] a2 (0 : Int32) (2 : Int32) kc c0 c1 h0 n0 Z0 V_a2 sA sH sL (rfl) (rfl) (h0_) (h1_) (hb0) (hb1)) hZ (wi hw 115 rfl) (wi hw 114 rfl) (by decide) (by decide)) (g := (mkF m 36 #[rv a1, rv a2, iv 0, iv 2, .val .null, un] [(.int 2), (.int 0), (.ref a2)])) rfl (by rw [hml]; rfl) (argsL := [(.ref a2), (.int 0), (.int 2)]) (rest := []) (lenOf pd_21 rfl) rfl (by show 2 * 0 + _ ≤ _; exact Nat.le_of_eq rfl) (hb hby d22_36) (fun _ _ => ⟨rfl, e4, (by decide : 0 + 2 ≤ _), (by decide : 0 + 6 ≤ _)⟩)
    dsimp only [Pt.U, Pt.locs, Pt.cells, Pt.slots] at X38 l38 y38 z38 st38 hQ38
    subst l38 y38 z38
    obtain ⟨az_38, kz_38, rfl, N38q, KC38, P38_0, R38_0, R38_1⟩ := hQ38
    have N38 := Fr.app N0 N38q
    have Z38 : n0 ≤ T38.heap.size := Nat.le_trans Z0 KC38.1
    have K38 := (Keep.refl h0 [a1]).trans KC38 all0
    have E_a1_39 := E_a1.keep KC38
    have Fv_a1_40 := Fv_a1.keep KC38 nin0
    have Fc_a1_41 := Fc_a1.keep KC38 nin0
    have V_a2_42 := V_a2.keep KC38 nin0
    have sC_43 := own_stak sC KC38 ns0
    have sA_44 := own_stak sA KC38 ns0
    have sH_45 := own_stak sH KC38 ns0
    have sL_46 := own_stak sL KC38 ns0
    have ne_a1_az_38 : a1 ≠ az_38 := Nat.ne_of_lt (Nat.lt_of_lt_of_le Fc_a1.lt R38_1)
    have ne_a2_az_38 : a2 ≠ az_38 := Nat.ne_of_lt (Nat.lt_of_lt_of_le V_a2.lt R38_1)
    have V_az_38_38 : Arv Z T38.heap az_38 kz_38 .byte (4 : Int32) [(.int (own_lo c0)), (.int (own_hi c0)), (.int (own_lo c1)), (.int (own_hi c1))] (.int 0) := P38_0
    have pre38 : PQ p e below m S0 T38 39 #[rv a1, rv a2, iv 0, iv 2, .val .null, un] [(.ref az_38)] := fun t kt => pre5 t (st38 _ kt)
    have pre47 : PQ p e below m S0 T38 45 #[rv a1, rv a2, iv 0, iv 2, .val .null, rv az_38] [(.int 2), (.ref az_38), (.ref a1)] := by
      intro t kt
      refine pre38 t ?_
      refine ow_astore X38.here hx hby d22_39 rfl (l' := #[rv a1, rv a2, iv 0, iv 2, .val .null, rv az_38]) rfl ?_
      refine ow_aloadN X38.here hx hby d22_41 rfl rfl ?_
      refine ow_aload X38.here hx hby d22_42 rfl rfl ?_
      refine ow_iloadN X38.here hx hby d22_44 rfl ?_
      exact kt
    obtain ⟨_, _, ⟨T48, L48, k48, n48⟩, -, X48, ⟨Lc48, hQ48, l48, y48, z48⟩, st48⟩ := Jvm.LawKit.callS X38 hx (y := mn22) hown (mw hZ hw 138 rfl) (mw hZ hw 139 rfl) (mw hZ hw 114 rfl) (mw hZ hw 140 rfl) (by decide) (backOf (W := 1) (rm30_4 l Z a0 hw [] az_38 (2 : Int32) kz_38 [(.int (own_lo c0)), (.int (own_hi c0)), (.int (own_lo c1)), (.int (own_hi c1))] T38.heap n0 Z38 V_az_38_38 (rfl)) hZ (wi hw 140 rfl) (wi hw 114 rfl) (by decide) (by decide)) (g := (mkF m 45 #[rv a1, rv a2, iv 0, iv 2, .val .null, rv az_38] [(.int 2), (.ref az_38), (.ref a1)])) rfl (by rw [hml]; rfl) (argsL := [(.ref az_38), (.int 2)]) (rest := [(.ref a1)]) (lenOf pd_22 rfl) rfl (by show 2 * 0 + _ ≤ _; exact Nat.le_of_eq rfl) (hb hby d22_45) (fun _ _ => ⟨rfl, rfl, (by decide : 2 + 0 ≤ _), (by decide : 6 + 0 ≤ _)⟩)
    dsimp only [Pt.U, Pt.locs, Pt.cells, Pt.slots] at X48 l48 y48 z48 st48 hQ48
    subst l48 y48 z48
    obtain ⟨rfl, N48q, e48⟩ := hQ48
    have N48 := Fr.app N38 N48q
    have pre48 : PQ p e below m S0 T48 48 #[rv a1, rv a2, iv 0, iv 2, .val .null, rv az_38] [(.int 1), (.ref a1)] := fun t kt => pre47 t (st48 _ kt)
    obtain ⟨T49, h49, X49, e49, W49, st49⟩ := putFN X48 hx hZ hown (wi hw 42 rfl) Via.refl e48 Fc_a1_41 E_a1_39 (Or.inr ⟨(wi hw 9 rfl), rfl, hnm⟩) (wi hw 6 rfl) (ty := .byte) (v' := (.int 1)) (by decide) rfl rfl (g := (mkF m 48 #[rv a1, rv a2, iv 0, iv 2, .val .null, rv az_38] [(.int 1), (.ref a1)])) rfl rfl (hb hby d22_48)
    have N49 := Fr.snoc X49 N48 ge_a1
    have K49 := K38.wr W49 (Or.inl (List.mem_of_getElem? (i := 0) rfl))
    have Z49 := Nat.le_trans Z38 (Keep.of_wr W49).1
    have E_a1_50 := E_a1_39.wr W49
    have Fv_a1_51 := Fv_a1_40.other W49 (Or.inr (slot_ne (Or.inr (wi hw 8 rfl)) (Or.inr (wi hw 9 rfl)) (by decide) (t := (.array .byte)) (t' := .byte) (by decide) (by decide)))
    have Fc_a1_52 := Fc_a1_41.same W49
    have V_a2_53 := V_a2_42.other W49 (Ne.symm ne_a1_a2)
    have sC_54 := sC_43.wr W49
    have sA_55 := sA_44.wr W49
    have sH_56 := sH_45.wr W49
    have sL_57 := sL_46.wr W49
    have V_az_38_38_58 := V_az_38_38.other W49 (Ne.symm ne_a1_az_38)
    have pre49 : PQ p e below m S0 T49 51 #[rv a1, rv a2, iv 0, iv 2, .val .null, rv az_38] [] := fun t kt => pre48 t (st49 _ kt)
    have pre59 : PQ p e below m S0 T49 54 #[rv a1, rv a2, iv 0, iv 2, .val .null, rv az_38] [(.ref az_38), (.ref a1)] := by
      intro t kt
      refine pre49 t ?_
      refine ow_aloadN X49.here hx hby d22_51 rfl rfl ?_
      refine ow_aload X49.here hx hby d22_52 rfl rfl ?_
      exact kt
    obtain ⟨T60, h60, X60, e60, W60, pre60⟩ := ow_putF pre59 X49 hx hZ hown (host := "") (Or.inl (wi hw 35 rfl)) Via.refl e49 Fv_a1_51 E_a1_50 (Or.inr ⟨(wi hw 8 rfl), rfl, hnm⟩) (wi hw 6 rfl) (ty := (.array .byte)) (by decide) rfl rfl hby d22_54
    have N60 := Fr.snoc X60 N49 ge_a1
    have K60 := K49.wr W60 (Or.inl (List.mem_of_getElem? (i := 0) rfl))
    have Z60 := Nat.le_trans Z49 (Keep.of_wr W60).1
    have E_a1_61 := E_a1_50.wr W60
    have Fv_a1_62 := Fv_a1_51.same W60
    have Fc_a1_63 := Fc_a1_52.other W60 (Or.inr (slot_ne (Or.inr (wi hw 9 rfl)) (Or.inr (wi hw 8 rfl)) (by decide) (t := .byte) (t' := (.array .byte)) (by decide) (by decide)))
    have V_a2_64 := V_a2_53.other W60 (Ne.symm ne_a1_a2)
    have sC_65 := sC_54.wr W60
    have sA_66 := sA_55.wr W60
    have sH_67 := sH_56.wr W60
    have sL_68 := sL_57.wr W60
    have V_az_38_38_69 := V_az_38_38_58.other W60 (Ne.symm ne_a1_az_38)
    obtain ⟨fs, hr, hu, hd, hW, hme⟩ := X60.leave (v := none) (fun _ => rfl)
    refine ⟨_, _, pre60 _ ?_, hu, hd, _, _, rfl, ?_, ⟨_, rfl⟩, hW, hme.mono (by decide) (by decide)⟩
    · show SQ p e below m T60 57 #[rv a1, rv a2, iv 0, iv 2, .val .null, rv az_38] [] _
      exact X60.returnOut hx Bd.returns (hb hby d22_57) hr
    · show Qrm22_U Z a1 a2 (0 : Int32) (2 : Int32) kc c0 c1 cz h0 n0 _ T60.heap _
      rw [e60]
      exact ⟨az_38, kz_38, rfl, N60, K60, E_a1_61, Fv_a1_62, Fc_a1_63, V_az_38_38_69⟩
def Qrm21_L (Z : State) (a1 a2 : Addr) (kc : ClassId) (c0 c1 cz : Int32) (h0 : Heap) (n0 : Nat) (v : Option Value) (h : Heap) (L : List Loc) : Prop := ∃ (tz : Addr) (kz : ClassId), v = none ∧ Fr n0 L ∧ Keep h0 h [a1] ∧ exa0 Z h a1 ∧ fld1 Z h a1 (.ref tz) ∧ fld0 Z h a1 (.int 0) ∧ Arv Z h tz kz .byte (2 : Int32) [(.int (own_b c0)), (.int (own_b c1))] (.int 0)
theorem d21_0 : decode kb31 0 = .ok (.aload_n 0, 1) := by decide +kernel
theorem d21_1 : decode kb31 1 = .ok (.aload_n 1, 1) := by decide +kernel
theorem d21_2 : decode kb31 2 = .ok (.iconst 0, 1) := by decide +kernel
theorem d21_3 : decode kb31 3 = .ok (.aload_n 1, 1) := by decide +kernel
theorem d21_4 : decode kb31 4 = .ok (.arraylength, 1) := by decide +kernel
theorem d21_5 : decode kb31 5 = .ok (.aconst_null, 1) := by decide +kernel
theorem d21_6 : decode kb31 6 = .ok (.invokespecial 27, 3) := by decide +kernel
theorem d21_9 : decode kb31 9 = .ok (.return_, 1) := by decide +kernel
theorem ef_21 (m : MethodId) (x0 x1 : Addr) : entryFrame m #[(.ref x0), (.ref x1)] 2 = mkF m 0 #[rv x0, rv x1] [] := by first | (simp [entryFrame, mkF, argsToLocals, Value.category]; done) | rfl
theorem rm21_L (l : Launch) (Z : State) (a0 : Array Value) (hw : HW a0 Z) (ws : List Jvm.Cond) (a1 a2 : Addr) (kc : ClassId) (c0 c1 cz : Int32) (h0 : Heap) (n0 : Nat) (Z0 : n0 ≤ h0.size) (E_a1 : exa0 Z h0 a1) (Fv_a1 : fld1 Z h0 a1 .null) (Fc_a1 : fld0 Z h0 a1 (.int 0)) (V_a2 : Arv Z h0 a2 kc .char (2 : Int32) [(.int c0), (.int c1)] (.int 0)) (sC : sta4 Z h0 (.int cz)) (sA : sta0 Z h0 (.int 1)) (sH : sta1 Z h0 (.int 0)) (sL : sta2 Z h0 (.int 8)) (ge_a1 : n0 ≤ a1) (ne_a1_a2 : a1 ≠ a2) (hCS : ¬ (cz = (0 : Int32))) (h0_ : ¬ (255 : Int32) < c0) (h1_ : ¬ (255 : Int32) < c1) (hb0 : ¬ c0 < 0 ∧ ¬ (65535 : Int32) < c0) (hb1 : ¬ c1 < 0 ∧ ¬ (65535 : Int32) < c1) :
    MF l Z h0 mn37 kb31 2 none ws ({ frames := 3, cells := 1, slots := 2, locals := 52 } : Room) #[(.ref a1), (.ref a2)] (Qrm21_L Z a1 a2 kc c0 c1 cz h0 n0) := by
  refine own_go "java/lang/String" rfl #[rv a1, rv a2] (fun m => ef_21 m a1 a2) (plainFor_of_name pn_4) ?_
  intro p e s m below meth c s₁ S0 Bd hx hby hml hown hZ X0 e0 pre0
  have N0 := Fr.nil n0
  have pre2 : PQ p e below m S0 s₁ 6 #[rv a1, rv a2] [.null, (.int 2), (.int 0), (.ref a2), (.ref a1)] := by
    intro t kt
    refine pre0 t ?_
    refine ow_aloadN X0.here hx hby d21_0 rfl rfl ?_
    refine ow_aloadN X0.here hx hby d21_1 rfl rfl ?_
    refine ow_iconst X0.here hx hby d21_2 (v := 0) rfl ?_
    refine ow_aloadN X0.here hx hby d21_3 rfl rfl ?_
    obtain ⟨cl1, Ar1, -, S1, M1, -, -⟩ := (id V_a2)
    refine X0.arraylength hx (by rw [e0]; exact Ar1.1) (State.isArrayOf_alike hZ.alike Ar1.2.1) (g := (mkF m 4 #[rv a1, rv a2] [(.ref a2), (.int 0), (.ref a2), (.ref a1)])) rfl rfl (hb hby d21_4) _ ?_
    rw [len_of S1 M1]
    show SQ p e below m s₁ 5 #[rv a1, rv a2] [(.int 2), (.int 0), (.ref a2), (.ref a1)] _
    refine XS.aconstNull X0.here hx rfl (hb hby d21_5) ?_
    exact kt
  obtain ⟨_, _, ⟨T3, L3, k3, n3⟩, -, X3, ⟨Lc3, hQ3, l3, y3, z3⟩, st3⟩ := X0.specialBack hx (y := mn36) rfl hown (mw hZ hw 109 rfl) (mw hZ hw 110 rfl) (mw hZ hw 111 rfl) (by decide) (backOf (W := 0) (rm22_L l Z a0 hw [] a1 a2 (0 : Int32) (2 : Int32) kc c0 c1 cz h0 n0 Z0 E_a1 Fv_a1 Fc_a1 V_a2 sC sA sH sL ge_a1 ne_a1_a2 (hCS) (rfl) (rfl) (h0_) (h1_) (hb0) (hb1)) hZ (wi hw 111 rfl) (wi hw 5 rfl) (by decide) (by decide)) (g := (mkF m 6 #[rv a1, rv a2] [.null, (.int 2), (.int 0), (.ref a2), (.ref a1)])) rfl (by rw [hml]; rfl) (Steps.refl _) (a := a1) (argsL := [(.ref a2), (.int 0), (.int 2), .null]) (rest := []) (lenOf pd_23 rfl) rfl (by show 2 * 0 + _ ≤ _; exact Nat.le_of_eq rfl) (hb hby d21_6) (fun _ _ => ⟨rfl, e0, (by decide : 0 + 1 ≤ _), (by decide : 0 + 2 ≤ _)⟩)
  dsimp only [Pt.U, Pt.locs, Pt.cells, Pt.slots] at X3 l3 y3 z3 st3 hQ3
  subst l3 y3 z3
  obtain ⟨tz_3, kz_3, rfl, N3q, KC3, P3_0, P3_1, P3_2, P3_3⟩ := hQ3
  have N3 := Fr.app N0 N3q
  have Z3 : n0 ≤ T3.heap.size := Nat.le_trans Z0 KC3.1
  have K3 := (Keep.refl h0 [a1]).trans KC3 (allS (Or.inl (List.mem_of_getElem? (i := 0) rfl)) all0)
  have E_a1_4 := E_a1.keep KC3
  have V_a2_7 := V_a2.keep KC3 (ninS (Ne.symm ne_a1_a2) nin0)
  have sC_8 := own_stak sC KC3 (nsS E_a1.nostat ns0)
  have sA_9 := own_stak sA KC3 (nsS E_a1.nostat ns0)
  have sH_10 := own_stak sH KC3 (nsS E_a1.nostat ns0)
  have sL_11 := own_stak sL KC3 (nsS E_a1.nostat ns0)
  have E_a1_3 : exa0 Z T3.heap a1 := P3_0
  have Fv_a1_3 : fld1 Z T3.heap a1 (.ref tz_3) := P3_1
  have Fc_a1_3 : fld0 Z T3.heap a1 (.int 0) := P3_2
  have V_tz_3_3 : Arv Z T3.heap tz_3 kz_3 .byte (2 : Int32) [(.int (own_b c0)), (.int (own_b c1))] (.int 0) := P3_3
  have pre3 : PQ p e below m S0 T3 9 #[rv a1, rv a2] [] := fun t kt => pre2 t (st3.trans kt)
  obtain ⟨fs, hr, hu, hd, hW, hme⟩ := X3.leave (v := none) (fun _ => rfl)
  refine ⟨_, _, pre3 _ ?_, hu, hd, _, _, rfl, ?_, ⟨_, rfl⟩, hW, hme.mono (by decide) (by decide)⟩
  · show SQ p e below m T3 9 #[rv a1, rv a2] [] _
    exact X3.returnOut hx Bd.returns (hb hby d21_9) hr
  · show Qrm21_L Z a1 a2 kc c0 c1 cz h0 n0 _ T3.heap _
    exact ⟨tz_3, kz_3, rfl, N3, K3, E_a1_3, Fv_a1_3, Fc_a1_3, V_tz_3_3⟩
def Qrm21_U (Z : State) (a1 a2 : Addr) (kc : ClassId) (c0 c1 cz : Int32) (h0 : Heap) (n0 : Nat) (v : Option Value) (h : Heap) (L : List Loc) : Prop := ∃ (tz : Addr) (kz : ClassId), v = none ∧ Fr n0 L ∧ Keep h0 h [a1] ∧ exa0 Z h a1 ∧ fld1 Z h a1 (.ref tz) ∧ fld0 Z h a1 (.int 1) ∧ Arv Z h tz kz .byte (4 : Int32) [(.int (own_lo c0)), (.int (own_hi c0)), (.int (own_lo c1)), (.int (own_hi c1))] (.int 0)

theorem rm21_U (l : Launch) (Z : State) (a0 : Array Value) (hw : HW a0 Z) (ws : List Jvm.Cond) (a1 a2 : Addr) (kc : ClassId) (c0 c1 cz : Int32) (h0 : Heap) (n0 : Nat) (Z0 : n0 ≤ h0.size) (E_a1 : exa0 Z h0 a1) (Fv_a1 : fld1 Z h0 a1 .null) (Fc_a1 : fld0 Z h0 a1 (.int 0)) (V_a2 : Arv Z h0 a2 kc .char (2 : Int32) [(.int c0), (.int c1)] (.int 0)) (sC : sta4 Z h0 (.int cz)) (sA : sta0 Z h0 (.int 1)) (sH : sta1 Z h0 (.int 0)) (sL : sta2 Z h0 (.int 8)) (ge_a1 : n0 ≤ a1) (ne_a1_a2 : a1 ≠ a2) (hCS : ¬ (cz = (0 : Int32))) (hU : (255 : Int32) < c0 ∨ (255 : Int32) < c1) (hb0 : ¬ c0 < 0 ∧ ¬ (65535 : Int32) < c0) (hb1 : ¬ c1 < 0 ∧ ¬ (65535 : Int32) < c1) :
    MF l Z h0 mn37 kb31 2 none ws ({ frames := 5, cells := 2, slots := 6, locals := 74 } : Room) #[(.ref a1), (.ref a2)] (Qrm21_U Z a1 a2 kc c0 c1 cz h0 n0) := by
  refine own_go "java/lang/String" rfl #[rv a1, rv a2] (fun m => ef_21 m a1 a2) (plainFor_of_name pn_4) ?_
  intro p e s m below meth c s₁ S0 Bd hx hby hml hown hZ X0 e0 pre0
  have N0 := Fr.nil n0
  have pre2 : PQ p e below m S0 s₁ 6 #[rv a1, rv a2] [.null, (.int 2), (.int 0), (.ref a2), (.ref a1)] := by
    intro t kt
    refine pre0 t ?_
    refine ow_aloadN X0.here hx hby d21_0 rfl rfl ?_
    refine ow_aloadN X0.here hx hby d21_1 rfl rfl ?_
    refine ow_iconst X0.here hx hby d21_2 (v := 0) rfl ?_
    refine ow_aloadN X0.here hx hby d21_3 rfl rfl ?_
    obtain ⟨cl1, Ar1, -, S1, M1, -, -⟩ := (id V_a2)
    refine X0.arraylength hx (by rw [e0]; exact Ar1.1) (State.isArrayOf_alike hZ.alike Ar1.2.1) (g := (mkF m 4 #[rv a1, rv a2] [(.ref a2), (.int 0), (.ref a2), (.ref a1)])) rfl rfl (hb hby d21_4) _ ?_
    rw [len_of S1 M1]
    show SQ p e below m s₁ 5 #[rv a1, rv a2] [(.int 2), (.int 0), (.ref a2), (.ref a1)] _
    refine XS.aconstNull X0.here hx rfl (hb hby d21_5) ?_
    exact kt
  obtain ⟨_, _, ⟨T3, L3, k3, n3⟩, -, X3, ⟨Lc3, hQ3, l3, y3, z3⟩, st3⟩ := X0.specialBack hx (y := mn36) rfl hown (mw hZ hw 109 rfl) (mw hZ hw 110 rfl) (mw hZ hw 111 rfl) (by decide) (backOf (W := 0) (rm22_U l Z a0 hw [] a1 a2 (0 : Int32) (2 : Int32) kc c0 c1 cz h0 n0 Z0 E_a1 Fv_a1 Fc_a1 V_a2 sC sA sH sL ge_a1 ne_a1_a2 (hCS) (rfl) (rfl) (hU) (hb0) (hb1)) hZ (wi hw 111 rfl) (wi hw 5 rfl) (by decide) (by decide)) (g := (mkF m 6 #[rv a1, rv a2] [.null, (.int 2), (.int 0), (.ref a2), (.ref a1)])) rfl (by rw [hml]; rfl) (Steps.refl _) (a := a1) (argsL := [(.ref a2), (.int 0), (.int 2), .null]) (rest := []) (lenOf pd_23 rfl) rfl (by show 2 * 0 + _ ≤ _; exact Nat.le_of_eq rfl) (hb hby d21_6) (fun _ _ => ⟨rfl, e0, (by decide : 0 + 2 ≤ _), (by decide : 0 + 6 ≤ _)⟩)
  dsimp only [Pt.U, Pt.locs, Pt.cells, Pt.slots] at X3 l3 y3 z3 st3 hQ3
  subst l3 y3 z3
  obtain ⟨tz_3, kz_3, rfl, N3q, KC3, P3_0, P3_1, P3_2, P3_3⟩ := hQ3
  have N3 := Fr.app N0 N3q
  have Z3 : n0 ≤ T3.heap.size := Nat.le_trans Z0 KC3.1
  have K3 := (Keep.refl h0 [a1]).trans KC3 (allS (Or.inl (List.mem_of_getElem? (i := 0) rfl)) all0)
  have E_a1_4 := E_a1.keep KC3
  have V_a2_7 := V_a2.keep KC3 (ninS (Ne.symm ne_a1_a2) nin0)
  have sC_8 := own_stak sC KC3 (nsS E_a1.nostat ns0)
  have sA_9 := own_stak sA KC3 (nsS E_a1.nostat ns0)
  have sH_10 := own_stak sH KC3 (nsS E_a1.nostat ns0)
  have sL_11 := own_stak sL KC3 (nsS E_a1.nostat ns0)
  have E_a1_3 : exa0 Z T3.heap a1 := P3_0
  have Fv_a1_3 : fld1 Z T3.heap a1 (.ref tz_3) := P3_1
  have Fc_a1_3 : fld0 Z T3.heap a1 (.int 1) := P3_2
  have V_tz_3_3 : Arv Z T3.heap tz_3 kz_3 .byte (4 : Int32) [(.int (own_lo c0)), (.int (own_hi c0)), (.int (own_lo c1)), (.int (own_hi c1))] (.int 0) := P3_3
  have pre3 : PQ p e below m S0 T3 9 #[rv a1, rv a2] [] := fun t kt => pre2 t (st3.trans kt)
  obtain ⟨fs, hr, hu, hd, hW, hme⟩ := X3.leave (v := none) (fun _ => rfl)
  refine ⟨_, _, pre3 _ ?_, hu, hd, _, _, rfl, ?_, ⟨_, rfl⟩, hW, hme.mono (by decide) (by decide)⟩
  · show SQ p e below m T3 9 #[rv a1, rv a2] [] _
    exact X3.returnOut hx Bd.returns (hb hby d21_9) hr
  · show Qrm21_U Z a1 a2 kc c0 c1 cz h0 n0 _ T3.heap _
    exact ⟨tz_3, kz_3, rfl, N3, K3, E_a1_3, Fv_a1_3, Fc_a1_3, V_tz_3_3⟩

def own_w : List Int32 → List Value
  | [] => []
  | c :: r => .int (own_lo c) :: .int (own_hi c) :: own_w r
def own_S (Z : State) (h : Heap) (x : Addr) (cs : List Int32) : Prop := ∃ (t : Addr) (kd : ClassId), exa0 Z h x ∧ fld1 Z h x (.ref t) ∧ ((fld0 Z h x (.int 0) ∧ Arv Z h t kd .byte (Int32.ofNat cs.length) (cs.map fun c => .int (own_b c)) (.int 0) ∧ ∀ c ∈ cs, ¬ c < 0 ∧ ¬ (255 : Int32) < c) ∨ (0 < cs.length ∧ fld0 Z h x (.int 1) ∧ Arv Z h t kd .byte (Int32.ofNat (2 * cs.length)) (own_w cs) (.int 0) ∧ ∀ c ∈ cs, ¬ c < 0 ∧ ¬ (65535 : Int32) < c))
theorem own_Sext {Z : State} {h h' : Heap} {x : Addr} {cs : List Int32} (F : own_S Z h x cs) (E : Ext h h') : own_S Z h' x cs := by
  obtain ⟨t, kd, X, V, ⟨Co, A, hb⟩ | ⟨hl, Co, A, hb⟩⟩ := F
  · exact ⟨t, kd, X.ext E, V.ext E, Or.inl ⟨Co.ext E, A.ext E, hb⟩⟩
  · exact ⟨t, kd, X.ext E, V.ext E, Or.inr ⟨hl, Co.ext E, A.ext E, hb⟩⟩
theorem own_Swr {Z : State} {h h' : Heap} {x a : Addr} {sl : Nat} {w : Value} {cs : List Int32} {K : String} {a0 : Array Value} {k : Nat} (F : own_S Z h x cs) (W : Wr h h' a sl w) (Y : Exa Z h a K) (wi : (Cond.instantiable K k).before a0 Z = true) (hne : "java/lang/String" ≠ K) : own_S Z h' x cs := by
  obtain ⟨t, kd, X, V, ⟨Co, A, hb⟩ | ⟨hl, Co, A, hb⟩⟩ := F
  · have n1 : x ≠ a := ne_exa X Y hne
    have n2 := own_neArv Y wi A
    exact ⟨t, kd, X.wr W, V.other W (Or.inl n1), Or.inl ⟨Co.other W (Or.inl n1), A.other W (Ne.symm n2), hb⟩⟩
  · have n1 : x ≠ a := ne_exa X Y hne
    have n2 := own_neArv Y wi A
    exact ⟨t, kd, X.wr W, V.other W (Or.inl n1), Or.inr ⟨hl, Co.other W (Or.inl n1), A.other W (Ne.symm n2), hb⟩⟩
theorem own_arne {Z : State} {h : Heap} {a b : Addr} {kd kd' : ClassId} {ty ty' : FieldType} {n n' : Int32} {vs vs' : List Value} {d d' : Value} (F : Arv Z h a kd ty n vs d) (G : Arv Z h b kd' ty' n' vs' d') (hne : ty ≠ ty') : a ≠ b := fun e => by
  subst e
  obtain ⟨c, A, -⟩ := F
  obtain ⟨c', A', -⟩ := G
  cases A.1.symm.trans A'.1
  obtain ⟨-, k, j1, comp, j2⟩ := A.2.1
  obtain ⟨-, k', j1', comp', j2'⟩ := A'.2.1
  cases j1.symm.trans j1'
  cases j2.symm.trans j2'
  exact hne rfl
theorem own_Swc {Z : State} {h h' : Heap} {x a : Addr} {sl : Nat} {w : Value} {cs : List Int32} {a0 : Array Value} {k : Nat} {kd' : ClassId} {ty : FieldType} {n : Int32} {vs : List Value} {d : Value} (F : own_S Z h x cs) (W : Wr h h' a sl w) (Y : Arv Z h a kd' ty n vs d) (wi : (Cond.instantiable "java/lang/String" k).before a0 Z = true) (hne : .byte ≠ ty) : own_S Z h' x cs := by
  obtain ⟨t, kd, X, V, ⟨Co, A, hb⟩ | ⟨hl, Co, A, hb⟩⟩ := F
  · have n1 := own_neArv X wi Y
    have n2 := own_arne A Y hne
    exact ⟨t, kd, X.wr W, V.other W (Or.inl n1), Or.inl ⟨Co.other W (Or.inl n1), A.other W n2, hb⟩⟩
  · have n1 := own_neArv X wi Y
    have n2 := own_arne A Y hne
    exact ⟨t, kd, X.wr W, V.other W (Or.inl n1), Or.inr ⟨hl, Co.other W (Or.inl n1), A.other W n2, hb⟩⟩
theorem own_Skeep {Z : State} {h h' : Heap} {x a : Addr} {cs : List Int32} {K : String} {a0 : Array Value} {k : Nat} (F : own_S Z h x cs) (W : Keep h h' [a]) (Y : Exa Z h a K) (wi : (Cond.instantiable K k).before a0 Z = true) (hne : "java/lang/String" ≠ K) : own_S Z h' x cs := by
  obtain ⟨t, kd, X, V, ⟨Co, A, hb⟩ | ⟨hl, Co, A, hb⟩⟩ := F
  · have n1 : x ≠ a := ne_exa X Y hne
    have n2 := own_neArv Y wi A
    exact ⟨t, kd, X.keep W, V.keep W (ninS n1 nin0), Or.inl ⟨Co.keep W (ninS n1 nin0), A.keep W (ninS (Ne.symm n2) nin0), hb⟩⟩
  · have n1 : x ≠ a := ne_exa X Y hne
    have n2 := own_neArv Y wi A
    exact ⟨t, kd, X.keep W, V.keep W (ninS n1 nin0), Or.inr ⟨hl, Co.keep W (ninS n1 nin0), A.keep W (ninS (Ne.symm n2) nin0), hb⟩⟩
theorem own_c8b {c : Int32} (h : ¬ c < 0 ∧ ¬ (255 : Int32) < c) : own_c8 (own_b c) = c := by
  obtain ⟨k, rfl⟩ := own_lat h
  rw [own_b8]; exact (own_nc _).symm.trans (own_byte k).1
def own_xi (c : Int32) : List Int32 → Int32
  | [] => -1
  | [a] => if a = c then 0 else -1
  | a :: b :: _ => if a = c then 0 else if b = c then 1 else -1
theorem own_enc {c : Int32} (h : ¬ c < 0) : own_f44 c = if (255 : Int32) < c then 0 else 1 := by
  unfold own_f44 own_f44_15; rw [if_neg h]
theorem own_beq {c d : Int32} (hc : ¬ c < 0 ∧ ¬ (255 : Int32) < c) (hd : ¬ d < 0 ∧ ¬ (255 : Int32) < d) : (own_b d = c.toInt8.toInt32) = (d = c) := by
  rw [own_b8]; exact propext ⟨fun e => own_eqb hd hc e, fun e => by rw [e]⟩
theorem own_big {c d : Int32} (hc : (255 : Int32) < c) (hd : ¬ (255 : Int32) < d) : ¬ d = c := fun e => hd (e ▸ hc)
theorem own_J1 {c d : Int32} (hc : ¬ c < 0 ∧ ¬ (65535 : Int32) < c) (hd : ¬ d < 0 ∧ ¬ (255 : Int32) < d) : own_j1 c (own_b d) = own_xi c [d] := by
  unfold own_j1 own_xi own_i1; rw [own_enc hc.1]
  by_cases h : (255 : Int32) < c
  · simp [h, own_big h hd.2]
  · simp [h, own_beq ⟨hc.1, h⟩ hd]
theorem own_J2 {c d f : Int32} (hc : ¬ c < 0 ∧ ¬ (65535 : Int32) < c) (hd : ¬ d < 0 ∧ ¬ (255 : Int32) < d) (hf : ¬ f < 0 ∧ ¬ (255 : Int32) < f) : own_j2 c (own_b d) (own_b f) = own_xi c [d, f] := by
  unfold own_j2 own_xi own_i2; rw [own_enc hc.1]
  by_cases h : (255 : Int32) < c
  · simp [h, own_big h hd.2, own_big h hf.2]
  · simp [h, own_beq ⟨hc.1, h⟩ hd, own_beq ⟨hc.1, h⟩ hf]
theorem own_U1 {c d : Int32} (hd : ¬ d < 0 ∧ ¬ (65535 : Int32) < d) : own_u1 c (own_lo d) (own_hi d) = own_xi c [d] := by
  unfold own_u1; rw [own_prs hd]; rfl
theorem own_U2 {c d f : Int32} (hd : ¬ d < 0 ∧ ¬ (65535 : Int32) < d) (hf : ¬ f < 0 ∧ ¬ (65535 : Int32) < f) : own_u2 c (own_lo d) (own_hi d) (own_lo f) (own_hi f) = own_xi c [d, f] := by
  unfold own_u2; rw [own_prs hd, own_prs hf]; rfl
theorem own_lt16 {c : Int32} (h : ¬ (65535 : Int32) < c) : c < (65536 : Int32) := by
  have e1 : (65535 : Int32).toInt = 65535 := by decide
  have e2 : (65536 : Int32).toInt = 65536 := by decide
  rw [Int32.lt_iff_toInt_lt] at *
  omega

def Qrm5S_0 (Z : State) (a1 : Addr) (cz : Int32) (h0 : Heap) (n0 : Nat) (v : Option Value) (h : Heap) (L : List Loc) : Prop := v = some (.int 0) ∧ Fr n0 L ∧ h = h0
theorem rm5S_0 (l : Launch) (Z : State) (a0 : Array Value) (hw : HW a0 Z) (ws : List Jvm.Cond) (a1 : Addr) (cz : Int32) (h0 : Heap) (n0 : Nat) (Z0 : n0 ≤ h0.size) (SS_a1 : own_S Z h0 a1 []) (sC : sta4 Z h0 (.int cz)) (hCS : ¬ (cz = (0 : Int32))) :
    MF l Z h0 mn0 kb19 1 (some .int) ws ro1 #[(.ref a1)] (Qrm5S_0 Z a1 cz h0 n0) := by
  obtain ⟨t, kd, E, V, ⟨Co, A, hb⟩ | ⟨hl, Co, A, hb⟩⟩ := SS_a1
  · exact rm5_00 l Z a0 hw ws a1 t kd _ cz h0 n0 Z0 E V Co A sC hCS
  · exact absurd hl (by decide)
def Qrm5S_1 (Z : State) (a1 : Addr) (c0 cz : Int32) (h0 : Heap) (n0 : Nat) (v : Option Value) (h : Heap) (L : List Loc) : Prop := v = some (.int 1) ∧ Fr n0 L ∧ h = h0
theorem rm5S_1 (l : Launch) (Z : State) (a0 : Array Value) (hw : HW a0 Z) (ws : List Jvm.Cond) (a1 : Addr) (c0 cz : Int32) (h0 : Heap) (n0 : Nat) (Z0 : n0 ≤ h0.size) (SS_a1 : own_S Z h0 a1 [c0]) (sC : sta4 Z h0 (.int cz)) (hCS : ¬ (cz = (0 : Int32))) :
    MF l Z h0 mn0 kb19 1 (some .int) ws ro1 #[(.ref a1)] (Qrm5S_1 Z a1 c0 cz h0 n0) := by
  obtain ⟨t, kd, E, V, ⟨Co, A, hb⟩ | ⟨hl, Co, A, hb⟩⟩ := SS_a1
  · exact rm5_01 l Z a0 hw ws a1 t kd _ cz h0 n0 Z0 E V Co A sC hCS
  · exact rm5_11 l Z a0 hw ws a1 t kd _ cz h0 n0 Z0 E V Co A sC hCS
def Qrm5S_2 (Z : State) (a1 : Addr) (c0 c1 cz : Int32) (h0 : Heap) (n0 : Nat) (v : Option Value) (h : Heap) (L : List Loc) : Prop := v = some (.int 2) ∧ Fr n0 L ∧ h = h0
theorem rm5S_2 (l : Launch) (Z : State) (a0 : Array Value) (hw : HW a0 Z) (ws : List Jvm.Cond) (a1 : Addr) (c0 c1 cz : Int32) (h0 : Heap) (n0 : Nat) (Z0 : n0 ≤ h0.size) (SS_a1 : own_S Z h0 a1 [c0, c1]) (sC : sta4 Z h0 (.int cz)) (hCS : ¬ (cz = (0 : Int32))) :
    MF l Z h0 mn0 kb19 1 (some .int) ws ro1 #[(.ref a1)] (Qrm5S_2 Z a1 c0 c1 cz h0 n0) := by
  obtain ⟨t, kd, E, V, ⟨Co, A, hb⟩ | ⟨hl, Co, A, hb⟩⟩ := SS_a1
  · exact rm5_02 l Z a0 hw ws a1 t kd _ cz h0 n0 Z0 E V Co A sC hCS
  · exact rm5_12 l Z a0 hw ws a1 t kd _ cz h0 n0 Z0 E V Co A sC hCS
def Qrm14S_10 (Z : State) (a1 : Addr) (p2 c0 cz : Int32) (fm : Value) (h0 : Heap) (n0 : Nat) (v : Option Value) (h : Heap) (L : List Loc) : Prop := v = some (.int c0) ∧ Fr n0 L ∧ h = h0
theorem rm14S_10 (l : Launch) (Z : State) (a0 : Array Value) (hw : HW a0 Z) (ws : List Jvm.Cond) (a1 : Addr) (p2 c0 cz : Int32) (fm : Value) (h0 : Heap) (n0 : Nat) (Z0 : n0 ≤ h0.size) (SS_a1 : own_S Z h0 a1 [c0]) (sC : sta4 Z h0 (.int cz)) (sF : sta3 Z h0 fm) (sA : sta0 Z h0 (.int 1)) (sH : sta1 Z h0 (.int 0)) (sL : sta2 Z h0 (.int 8)) (hCS : ¬ (cz = (0 : Int32))) (hFM : fm.isRef = true) (hp2 : p2 = (0 : Int32)) :
    MF l Z h0 mn2 kb11 2 (some .char) ws ro2 #[(.ref a1), (.int p2)] (Qrm14S_10 Z a1 p2 c0 cz fm h0 n0) := by
  obtain ⟨t, kd, E, V, ⟨Co, A, hb⟩ | ⟨hl, Co, A, hb⟩⟩ := SS_a1
  · have q := rm14_010 l Z a0 hw ws a1 p2 t kd (own_b c0) cz fm h0 n0 Z0 E V Co A sC sF hCS hFM hp2
    unfold MF Qrm14_010 at q; rw [own_c8b (hb c0 (by simp))] at q; exact q
  · have q := rm14_110 l Z a0 hw ws a1 p2 t kd (own_lo c0) (own_hi c0) cz fm h0 n0 Z0 E V Co A sC sF sA sH sL hCS hFM hp2
    unfold MF Qrm14_110 at q; rw [own_prs (hb c0 (by simp))] at q; exact q
def Qrm14S_20 (Z : State) (a1 : Addr) (p2 c0 : Int32) (c1 cz : Int32) (fm : Value) (h0 : Heap) (n0 : Nat) (v : Option Value) (h : Heap) (L : List Loc) : Prop := v = some (.int c0) ∧ Fr n0 L ∧ h = h0
theorem rm14S_20 (l : Launch) (Z : State) (a0 : Array Value) (hw : HW a0 Z) (ws : List Jvm.Cond) (a1 : Addr) (p2 c0 : Int32) (c1 cz : Int32) (fm : Value) (h0 : Heap) (n0 : Nat) (Z0 : n0 ≤ h0.size) (SS_a1 : own_S Z h0 a1 [c0, c1]) (sC : sta4 Z h0 (.int cz)) (sF : sta3 Z h0 fm) (sA : sta0 Z h0 (.int 1)) (sH : sta1 Z h0 (.int 0)) (sL : sta2 Z h0 (.int 8)) (hCS : ¬ (cz = (0 : Int32))) (hFM : fm.isRef = true) (hp2 : p2 = (0 : Int32)) :
    MF l Z h0 mn2 kb11 2 (some .char) ws ro2 #[(.ref a1), (.int p2)] (Qrm14S_20 Z a1 p2 c0 c1 cz fm h0 n0) := by
  obtain ⟨t, kd, E, V, ⟨Co, A, hb⟩ | ⟨hl, Co, A, hb⟩⟩ := SS_a1
  · have q := rm14_020 l Z a0 hw ws a1 p2 t kd (own_b c0) (own_b c1) cz fm h0 n0 Z0 E V Co A sC sF hCS hFM hp2
    unfold MF Qrm14_020 at q; rw [own_c8b (hb c0 (by simp))] at q; exact q
  · have q := rm14_120 l Z a0 hw ws a1 p2 t kd (own_lo c0) (own_hi c0) (own_lo c1) (own_hi c1) cz fm h0 n0 Z0 E V Co A sC sF sA sH sL hCS hFM hp2
    unfold MF Qrm14_120 at q; rw [own_prs (hb c0 (by simp))] at q; exact q
def Qrm14S_21 (Z : State) (a1 : Addr) (p2 c0 : Int32) (c1 cz : Int32) (fm : Value) (h0 : Heap) (n0 : Nat) (v : Option Value) (h : Heap) (L : List Loc) : Prop := v = some (.int c1) ∧ Fr n0 L ∧ h = h0
theorem rm14S_21 (l : Launch) (Z : State) (a0 : Array Value) (hw : HW a0 Z) (ws : List Jvm.Cond) (a1 : Addr) (p2 c0 : Int32) (c1 cz : Int32) (fm : Value) (h0 : Heap) (n0 : Nat) (Z0 : n0 ≤ h0.size) (SS_a1 : own_S Z h0 a1 [c0, c1]) (sC : sta4 Z h0 (.int cz)) (sF : sta3 Z h0 fm) (sA : sta0 Z h0 (.int 1)) (sH : sta1 Z h0 (.int 0)) (sL : sta2 Z h0 (.int 8)) (hCS : ¬ (cz = (0 : Int32))) (hFM : fm.isRef = true) (hp2 : p2 = (1 : Int32)) :
    MF l Z h0 mn2 kb11 2 (some .char) ws ro2 #[(.ref a1), (.int p2)] (Qrm14S_21 Z a1 p2 c0 c1 cz fm h0 n0) := by
  obtain ⟨t, kd, E, V, ⟨Co, A, hb⟩ | ⟨hl, Co, A, hb⟩⟩ := SS_a1
  · have q := rm14_021 l Z a0 hw ws a1 p2 t kd (own_b c0) (own_b c1) cz fm h0 n0 Z0 E V Co A sC sF hCS hFM hp2
    unfold MF Qrm14_021 at q; rw [own_c8b (hb c1 (by simp))] at q; exact q
  · have q := rm14_121 l Z a0 hw ws a1 p2 t kd (own_lo c0) (own_hi c0) (own_lo c1) (own_hi c1) cz fm h0 n0 Z0 E V Co A sC sF sA sH sL hCS hFM hp2
    unfold MF Qrm14_121 at q; rw [own_prs (hb c1 (by simp))] at q; exact q
def Qrm34S (Z : State) (a1 : Addr) (p2 : Int32) (cs : List Int32) (cz : Int32) (fm : Value) (h0 : Heap) (n0 : Nat) (v : Option Value) (h : Heap) (L : List Loc) : Prop := v = some (.int (own_xi p2 cs)) ∧ Fr n0 L ∧ h = h0
theorem rm34S (l : Launch) (Z : State) (a0 : Array Value) (hw : HW a0 Z) (ws : List Jvm.Cond) (a1 : Addr) (p2 : Int32) (cs : List Int32) (cz : Int32) (fm : Value) (h0 : Heap) (n0 : Nat) (Z0 : n0 ≤ h0.size) (SS_a1 : own_S Z h0 a1 cs) (sC : sta4 Z h0 (.int cz)) (sF : sta3 Z h0 fm) (sA : sta0 Z h0 (.int 1)) (sH : sta1 Z h0 (.int 0)) (sL : sta2 Z h0 (.int 8)) (hCS : ¬ (cz = (0 : Int32))) (hFM : fm.isRef = true) (hk : cs.length ≤ 2) (hch : ¬ p2 < 0 ∧ ¬ (65535 : Int32) < p2) :
    MF l Z h0 mn10 kb24 2 (some .int) ws ro4 #[(.ref a1), (.int p2)] (Qrm34S Z a1 p2 cs cz fm h0 n0) := by
  rcases cs with _ | ⟨c0, _ | ⟨c1, _ | ⟨c2, r⟩⟩⟩
  · obtain ⟨t, kd, E, V, ⟨Co, A, hb⟩ | ⟨hl, Co, A, hb⟩⟩ := SS_a1
    · have q := rm34_00 l Z a0 hw ws a1 p2 t kd  cz fm h0 n0 Z0 E V Co A sC sF sA sH sL hCS hFM (own_lt16 hch.2)
      unfold MF Qrm34_00 at q; exact q
    · exact absurd hl (by decide)
  · obtain ⟨t, kd, E, V, ⟨Co, A, hb⟩ | ⟨hl, Co, A, hb⟩⟩ := SS_a1
    · have q := rm34_01 l Z a0 hw ws a1 p2 t kd (own_b c0) cz fm h0 n0 Z0 E V Co A sC sF sA sH sL hCS hFM (own_lt16 hch.2)
      unfold MF Qrm34_01 at q; rw [own_J1 hch (hb c0 (by simp))] at q; exact q
    · have q := rm34_11 l Z a0 hw ws a1 p2 t kd (own_lo c0) (own_hi c0) cz fm h0 n0 Z0 E V Co A sC sF sA sH sL hCS hFM (own_lt16 hch.2)
      unfold MF Qrm34_11 at q; rw [own_U1 (hb c0 (by simp))] at q; exact q
  · obtain ⟨t, kd, E, V, ⟨Co, A, hb⟩ | ⟨hl, Co, A, hb⟩⟩ := SS_a1
    · have q := rm34_02 l Z a0 hw ws a1 p2 t kd (own_b c0) (own_b c1) cz fm h0 n0 Z0 E V Co A sC sF sA sH sL hCS hFM (own_lt16 hch.2)
      unfold MF Qrm34_02 at q; rw [own_J2 hch (hb c0 (by simp)) (hb c1 (by simp))] at q; exact q
    · have q := rm34_12 l Z a0 hw ws a1 p2 t kd (own_lo c0) (own_hi c0) (own_lo c1) (own_hi c1) cz fm h0 n0 Z0 E V Co A sC sF sA sH sL hCS hFM (own_lt16 hch.2)
      unfold MF Qrm34_12 at q; rw [own_U2 (hb c0 (by simp)) (hb c1 (by simp))] at q; exact q
  · exact absurd hk (by simp)

def own_hg : List Int32 → Int32
  | [] => 0
  | [a] => nar .char ((own_f19 0 a).toUInt32.toUInt16.toUInt32.toInt32)
  | a :: b :: _ => nar .char ((own_f19 ((own_f19 0 a).toUInt32.toUInt16.toUInt32.toInt32) b).toUInt32.toUInt16.toUInt32.toInt32)
def own_en (cs : List Int32) (hi ar c : Int32) : Int32 := if hi < c then 0 else if own_xi c cs < 0 then 0 else if c = 10 then (if ar = 0 then 1 else 0) else 1
def own_sl (cs : List Int32) (hi ln ar c : Int32) : Int32 := if own_en cs hi ar c = 0 then ln else ln + 1
def own_sa (cs : List Int32) (hi ar c : Int32) : Int32 := if own_en cs hi ar c = 0 then 0 else if c = 13 then 1 else 0
def own_run (cs : List Int32) (hi : Int32) : List Int32 → Int32 × Int32 → Int32 × Int32
  | [], s => s
  | c :: r, s => own_run cs hi r (own_sl cs hi s.1 s.2 c, own_sa cs hi s.2 c)
def own_seg (ts : List Int32) (o l : Nat) : List Int32 := (List.range l).map fun j => ts.getD (o + j) 0
def own_pc (b0 b1 bl : Int32) : List Int32 → Int32 → Int32
  | [], s => s
  | c :: r, s => own_pc b0 b1 bl r (own_f13 s c b0 b1 bl)
theorem own_tb {ts : List Int32} (h : ∀ c ∈ ts, ¬ c < 0 ∧ ¬ (65535 : Int32) < c) (i : Nat) : ¬ ts.getD i 0 < 0 ∧ ¬ (65535 : Int32) < ts.getD i 0 := by
  by_cases q : i < ts.length
  · rw [List.getD_eq_getElem?_getD, List.getElem?_eq_getElem q]; exact h _ (List.getElem_mem q)
  · rw [List.getD_eq_getElem?_getD, List.getElem?_eq_none (Nat.le_of_not_lt q)]; decide
theorem own_tv {ts : List Int32} {x : Int32} {i : Nat} (hx : x.toNatClampNeg = i) (h : i < ts.length) : (ts.map Value.int).getD x.toNatClampNeg (.int 0) = .int (ts.getD i 0) := by
  rw [hx, List.getD_eq_getElem?_getD, List.getD_eq_getElem?_getD, List.getElem?_map, List.getElem?_eq_getElem h]; rfl

def Qrm3_0 (Z : State) (a1 a2 : Addr) (cz : Int32) (fm : Value) (h0 : Heap) (n0 : Nat) (v : Option Value) (h : Heap) (L : List Loc) : Prop := v = none ∧ Fr n0 L ∧ Keep h0 h [a1] ∧ exa1 Z h a1 ∧ fld2 Z h a1 (.int 1) ∧ fld4 Z h a1 (.ref a2) ∧ fld5 Z h a1 (.int (own_hg [])) ∧ fld3 Z h a1 (.int 0)
theorem d3_0 : decode kb3 0 = .ok (.aload_n 0, 1) := by decide +kernel
theorem d3_1 : decode kb3 1 = .ok (.invokespecial 1, 3) := by decide +kernel
theorem d3_4 : decode kb3 4 = .ok (.aload_n 0, 1) := by decide +kernel
theorem d3_5 : decode kb3 5 = .ok (.iconst 1, 1) := by decide +kernel
theorem d3_6 : decode kb3 6 = .ok (.putfield 7, 3) := by decide +kernel
theorem d3_9 : decode kb3 9 = .ok (.aload_n 0, 1) := by decide +kernel
theorem d3_10 : decode kb3 10 = .ok (.aload_n 1, 1) := by decide +kernel
theorem d3_11 : decode kb3 11 = .ok (.putfield 13, 3) := by decide +kernel
theorem d3_14 : decode kb3 14 = .ok (.iconst 0, 1) := by decide +kernel
theorem d3_15 : decode kb3 15 = .ok (.istore_n 2, 1) := by decide +kernel
theorem d3_16 : decode kb3 16 = .ok (.iconst 0, 1) := by decide +kernel
theorem d3_17 : decode kb3 17 = .ok (.istore_n 3, 1) := by decide +kernel
theorem d3_18 : decode kb3 18 = .ok (.iload_n 3, 1) := by decide +kernel
theorem d3_19 : decode kb3 19 = .ok (.aload_n 1, 1) := by decide +kernel
theorem d3_20 : decode kb3 20 = .ok (.invokevirtual 17, 3) := by decide +kernel
theorem d3_23 : decode kb3 23 = .ok (.if_icmp .ge 20, 3) := by decide +kernel
theorem d3_43 : decode kb3 43 = .ok (.aload_n 0, 1) := by decide +kernel
theorem d3_44 : decode kb3 44 = .ok (.iload_n 2, 1) := by decide +kernel
theorem d3_45 : decode kb3 45 = .ok (.putfield 33, 3) := by decide +kernel
theorem d3_48 : decode kb3 48 = .ok (.return_, 1) := by decide +kernel
theorem ef_3 (m : MethodId) (x0 x1 : Addr) : entryFrame m #[(.ref x0), (.ref x1)] 4 = mkF m 0 #[rv x0, rv x1, un, un] [] := by first | (simp [entryFrame, mkF, argsToLocals, Value.category]; done) | rfl
theorem rm3_0 (l : Launch) (Z : State) (a0 : Array Value) (hw : HW a0 Z) (ws : List Jvm.Cond) (a1 a2 : Addr) (cz : Int32) (fm : Value) (h0 : Heap) (n0 : Nat) (Z0 : n0 ≤ h0.size) (E_a1 : exa1 Z h0 a1) (Fl_a1 : fld2 Z h0 a1 (.int 0)) (Fb_a1 : fld4 Z h0 a1 .null) (Fh_a1 : fld5 Z h0 a1 (.int 0)) (Fa_a1 : fld3 Z h0 a1 (.int 0)) (E_a2 : exa0 Z h0 a2) (SS_a2 : own_S Z h0 a2 []) (sC : sta4 Z h0 (.int cz)) (sF : sta3 Z h0 fm) (sA : sta0 Z h0 (.int 1)) (sH : sta1 Z h0 (.int 0)) (sL : sta2 Z h0 (.int 8)) (ge_a1 : n0 ≤ a1) (hCS : ¬ (cz = (0 : Int32))) (hFM : fm.isRef = true) :
    MF l Z h0 mn23 kb3 4 none ws ro5 #[(.ref a1), (.ref a2)] (Qrm3_0 Z a1 a2 cz fm h0 n0) := by
  refine own_go "com/example/pourcode/pourcode/input/LineCounter" rfl #[rv a1, rv a2, un, un] (fun m => ef_3 m a1 a2) (plainFor_of_name pn_5) ?_
  intro p e s m below meth c s₁ S0 Bd hx hby hml hown hZ X0 e0 pre0
  have hnm := (name_of_methodNamed Bd.named Bd.method).1
  have N0 := Fr.nil n0
  have pre1 : PQ p e below m S0 s₁ 1 #[rv a1, rv a2, un, un] [(.ref a1)] := by
    intro t kt
    refine pre0 t ?_
    refine ow_aloadN X0.here hx hby d3_0 rfl rfl ?_
    exact kt
  obtain ⟨T2, X2, e2, st2⟩ := initO X0 hx hZ hown (wi hw 23 rfl) (wi hw 24 rfl) (wi hw 25 rfl) e0 (g := (mkF m 1 #[rv a1, rv a2, un, un] [(.ref a1)])) rfl (by rw [hml]; rfl) rfl (hb hby d3_1) (by decide) (W := 0) (by show 2 * 0 + _ ≤ _; exact Nat.le_of_eq rfl) (by decide)
  have pre2 : PQ p e below m S0 T2 4 #[rv a1, rv a2, un, un] [] := fun t kt => pre1 t (st2 _ kt)
  have pre3 : PQ p e below m S0 T2 6 #[rv a1, rv a2, un, un] [(.int 1), (.ref a1)] := by
    intro t kt
    refine pre2 t ?_
    refine ow_aloadN X2.here hx hby d3_4 rfl rfl ?_
    refine ow_iconst X2.here hx hby d3_5 (v := 1) rfl ?_
    exact kt
  obtain ⟨T4, h4, X4, e4, W4, pre4⟩ := ow_putF pre3 X2 hx hZ hown (host := "") (Or.inl (wi hw 26 rfl)) Via.refl e2 Fl_a1 E_a1 (Or.inl (wi hw 27 rfl)) (wi hw 18 rfl) (ty := .int) (by decide) rfl rfl hby d3_6
  have N4 := Fr.snoc X4 N0 ge_a1
  have K4 := (Keep.refl h0 [a1]).wr W4 (Or.inl (List.mem_of_getElem? (i := 0) rfl))
  have Z4 := Nat.le_trans Z0 (Keep.of_wr W4).1
  have E_a1_5 := E_a1.wr W4
  have Fl_a1_6 := Fl_a1.same W4
  have Fb_a1_7 := Fb_a1.other W4 (Or.inr (slot_ne (Or.inr (wi hw 29 rfl)) (Or.inl (wi hw 27 rfl)) (by decide) (t := (.object "java/lang/String")) (t' := .int) (by decide) (by decide)))
  have Fh_a1_8 := Fh_a1.other W4 (Or.inr (slot_ne (Or.inr (wi hw 44 rfl)) (Or.inl (wi hw 27 rfl)) (by decide) (t := .char) (t' := .int) (by decide) (by decide)))
  have Fa_a1_9 := Fa_a1.other W4 (Or.inr (slot_ne (Or.inl (wi hw 104 rfl)) (Or.inl (wi hw 27 rfl)) (by decide) (t := .boolean) (t' := .int) (by decide) (by decide)))
  have E_a2_10 := E_a2.wr W4
  have SS_a2_11 := own_Swr SS_a2 W4 E_a1 (wi hw 18 rfl) (by decide)
  have sC_12 := sC.wr W4
  have sF_13 := sF.wr W4
  have sA_14 := sA.wr W4
  have sH_15 := sH.wr W4
  have sL_16 := sL.wr W4
  have pre17 : PQ p e below m S0 T4 11 #[rv a1, rv a2, un, un] [(.ref a2), (.ref a1)] := by
    intro t kt
    refine pre4 t ?_
    refine ow_aloadN X4.here hx hby d3_9 rfl rfl ?_
    refine ow_aloadN X4.here hx hby d3_10 rfl rfl ?_
    exact kt
  obtain ⟨T18, h18, X18, e18, W18, pre18⟩ := ow_putF pre17 X4 hx hZ hown (host := "") (Or.inl (wi hw 28 rfl)) Via.refl e4 Fb_a1_7 E_a1_5 (Or.inr ⟨(wi hw 29 rfl), rfl, hnm⟩) (wi hw 18 rfl) (ty := (.object "java/lang/String")) (by decide) rfl rfl hby d3_11
  have N18 := Fr.snoc X18 N4 ge_a1
  have K18 := K4.wr W18 (Or.inl (List.mem_of_getElem? (i := 0) rfl))
  have Z18 := Nat.le_trans Z4 (Keep.of_wr W18).1
  have E_a1_19 := E_a1_5.wr W18
  have Fl_a1_20 := Fl_a1_6.other W18 (Or.inr (slot_ne (Or.inl (wi hw 27 rfl)) (Or.inr (wi hw 29 rfl)) (by decide) (t := .int) (t' := (.object "java/lang/String")) (by decide) (by decide)))
  have Fb_a1_21 := Fb_a1_7.same W18
  have Fh_a1_22 := Fh_a1_8.other W18 (Or.inr (slot_ne (Or.inr (wi hw 44 rfl)) (Or.inr (wi hw 29 rfl)) (by decide) (t := .char) (t' := (.object "java/lang/String")) (by decide) (by decide)))
  have Fa_a1_23 := Fa_a1_9.other W18 (Or.inr (slot_ne (Or.inl (wi hw 104 rfl)) (Or.inr (wi hw 29 rfl)) (by decide) (t := .boolean) (t' := (.object "java/lang/String")) (by decide) (by decide)))
  have E_a2_24 := E_a2_10.wr W18
  have SS_a2_25 := own_Swr SS_a2_11 W18 E_a1_5 (wi hw 18 rfl) (by decide)
  have sC_26 := sC_12.wr W18
  have sF_27 := sF_13.wr W18
  have sA_28 := sA_14.wr W18
  have sH_29 := sH_15.wr W18
  have sL_30 := sL_16.wr W18
  have pre31 : PQ p e below m S0 T18 20 #[rv a1, rv a2, iv 0, iv 0] [(.ref a2), (.int 0)] := by
    intro t kt
    refine pre18 t ?_
    refine ow_iconst X18.here hx hby d3_14 (v := 0) rfl ?_
    refine ow_istoreN X18.here hx hby d3_15 (l' := #[rv a1, rv a2, iv 0, un]) rfl ?_
    refine ow_iconst X18.here hx hby d3_16 (v := 0) rfl ?_
    refine ow_istoreN X18.here hx hby d3_17 (l' := #[rv a1, rv a2, iv 0, iv 0]) rfl ?_
    refine ow_iloadN X18.here hx hby d3_18 rfl ?_
    refine ow_aloadN X18.here hx hby d3_19 rfl rfl ?_
    exact kt
  obtain ⟨cq32, kq32, q32a, q32b, q32c⟩ := isOf hZ e18 E_a2_24
  obtain ⟨_, _, ⟨T32, L32, k32, n32⟩, -, X32, ⟨Lc32, hQ32, l32, y32, z32⟩, st32⟩ := X18.virtualBack hx (y := mn0) (z := mn0) hown (mw hZ hw 30 rfl) (mw hZ hw 31 rfl) (notFace_of_selects (args := #[]) (mw hZ hw 33 rfl)) (mw hZ hw 33 rfl) (mw hZ hw 32 rfl) (by decide) (backOf (W := 1) (rm5S_0 l Z a0 hw [] a2 cz h18 n0 Z18 SS_a2_25 sC_26 (hCS)) hZ (wi hw 34 rfl) (wi hw 5 rfl) (by decide) (by decide)) q32a q32c (g := (mkF m 20 #[rv a1, rv a2, iv 0, iv 0] [(.ref a2), (.int 0)])) rfl (by rw [hml]; rfl) (Steps.refl _) (argsL := []) (rest := [(.int 0)]) (lenOf pd_13 rfl) rfl (by show 2 * 0 + _ ≤ _; exact Nat.le_of_eq rfl) (hb hby d3_20) (fun _ _ => ⟨rfl, e18, (Nat.zero_le _), (Nat.zero_le _)⟩)
  dsimp only [Pt.U, Pt.locs, Pt.cells, Pt.slots] at X32 l32 y32 z32 st32 hQ32
  subst l32 y32 z32
  obtain ⟨rfl, N32q, e32⟩ := hQ32
  have N32 := Fr.app N18 N32q
  have pre32 : PQ p e below m S0 T32 23 #[rv a1, rv a2, iv 0, iv 0] [(.int 0), (.int 0)] := fun t kt => pre31 t (st32.trans kt)
  have pre33 : PQ p e below m S0 T32 45 #[rv a1, rv a2, iv 0, iv 0] [(.int 0), (.ref a1)] := by
    intro t kt
    refine pre32 t ?_
    refine ow_icmpYes X32.here hx hby d3_23 (flt (by decide)).2.1 (pc' := 43) (by decide) (by decide) ?_
    refine ow_aloadN X32.here hx hby d3_43 rfl rfl ?_
    refine ow_iloadN X32.here hx hby d3_44 rfl ?_
    exact kt
  obtain ⟨T34, h34, X34, e34, W34, st34⟩ := putFN X32 hx hZ hown (wi hw 43 rfl) Via.refl e32 Fh_a1_22 E_a1_19 (Or.inr ⟨(wi hw 44 rfl), rfl, hnm⟩) (wi hw 18 rfl) (ty := .char) (v' := (.int 0)) (by decide) rfl rfl (g := (mkF m 45 #[rv a1, rv a2, iv 0, iv 0] [(.int 0), (.ref a1)])) rfl rfl (hb hby d3_45)
  have N34 := Fr.snoc X34 N32 ge_a1
  have K34 := K18.wr W34 (Or.inl (List.mem_of_getElem? (i := 0) rfl))
  have Z34 := Nat.le_trans Z18 (Keep.of_wr W34).1
  have E_a1_35 := E_a1_19.wr W34
  have Fl_a1_36 := Fl_a1_20.other W34 (Or.inr (slot_ne (Or.inl (wi hw 27 rfl)) (Or.inr (wi hw 44 rfl)) (by decide) (t := .int) (t' := .char) (by decide) (by decide)))
  have Fb_a1_37 := Fb_a1_21.other W34 (Or.inr (slot_ne (Or.inr (wi hw 29 rfl)) (Or.inr (wi hw 44 rfl)) (by decide) (t := (.object "java/lang/String")) (t' := .char) (by decide) (by decide)))
  have Fh_a1_38 := Fh_a1_22.same W34
  have Fa_a1_39 := Fa_a1_23.other W34 (Or.inr (slot_ne (Or.inl (wi hw 104 rfl)) (Or.inr (wi hw 44 rfl)) (by decide) (t := .boolean) (t' := .char) (by decide) (by decide)))
  have E_a2_40 := E_a2_24.wr W34
  have SS_a2_41 := own_Swr SS_a2_25 W34 E_a1_19 (wi hw 18 rfl) (by decide)
  have sC_42 := sC_26.wr W34
  have sF_43 := sF_27.wr W34
  have sA_44 := sA_28.wr W34
  have sH_45 := sH_29.wr W34
  have sL_46 := sL_30.wr W34
  have pre34 : PQ p e below m S0 T34 48 #[rv a1, rv a2, iv 0, iv 0] [] := fun t kt => pre33 t (st34 _ kt)
  obtain ⟨fs, hr, hu, hd, hW, hme⟩ := X34.leave (v := none) (fun _ => rfl)
  refine ⟨_, _, pre34 _ ?_, hu, hd, _, _, rfl, ?_, ⟨_, rfl⟩, hW, hme.mono (by decide) (by decide)⟩
  · show SQ p e below m T34 48 #[rv a1, rv a2, iv 0, iv 0] [] _
    exact X34.returnOut hx Bd.returns (hb hby d3_48) hr
  · show Qrm3_0 Z a1 a2 cz fm h0 n0 _ T34.heap _
    rw [e34]
    exact ⟨rfl, N34, K34, E_a1_35, Fl_a1_36, Fb_a1_37, Fh_a1_38, Fa_a1_39⟩
def Qrm3_1 (Z : State) (a1 a2 : Addr) (c0 cz : Int32) (fm : Value) (h0 : Heap) (n0 : Nat) (v : Option Value) (h : Heap) (L : List Loc) : Prop := v = none ∧ Fr n0 L ∧ Keep h0 h [a1] ∧ exa1 Z h a1 ∧ fld2 Z h a1 (.int 1) ∧ fld4 Z h a1 (.ref a2) ∧ fld5 Z h a1 (.int (own_hg [c0])) ∧ fld3 Z h a1 (.int 0)
theorem d3_26 : decode kb3 26 = .ok (.iload_n 2, 1) := by decide +kernel
theorem d3_27 : decode kb3 27 = .ok (.aload_n 1, 1) := by decide +kernel
theorem d3_28 : decode kb3 28 = .ok (.iload_n 3, 1) := by decide +kernel
theorem d3_29 : decode kb3 29 = .ok (.invokevirtual 23, 3) := by decide +kernel
theorem d3_32 : decode kb3 32 = .ok (.invokestatic 27, 3) := by decide +kernel
theorem d3_35 : decode kb3 35 = .ok (.i2c, 1) := by decide +kernel
theorem d3_36 : decode kb3 36 = .ok (.istore_n 2, 1) := by decide +kernel
theorem d3_37 : decode kb3 37 = .ok (.iinc 3 1, 3) := by decide +kernel
theorem d3_40 : decode kb3 40 = .ok (.goto (-22), 3) := by decide +kernel

theorem rm3_1 (l : Launch) (Z : State) (a0 : Array Value) (hw : HW a0 Z) (ws : List Jvm.Cond) (a1 a2 : Addr) (c0 cz : Int32) (fm : Value) (h0 : Heap) (n0 : Nat) (Z0 : n0 ≤ h0.size) (E_a1 : exa1 Z h0 a1) (Fl_a1 : fld2 Z h0 a1 (.int 0)) (Fb_a1 : fld4 Z h0 a1 .null) (Fh_a1 : fld5 Z h0 a1 (.int 0)) (Fa_a1 : fld3 Z h0 a1 (.int 0)) (E_a2 : exa0 Z h0 a2) (SS_a2 : own_S Z h0 a2 [c0]) (sC : sta4 Z h0 (.int cz)) (sF : sta3 Z h0 fm) (sA : sta0 Z h0 (.int 1)) (sH : sta1 Z h0 (.int 0)) (sL : sta2 Z h0 (.int 8)) (ge_a1 : n0 ≤ a1) (hCS : ¬ (cz = (0 : Int32))) (hFM : fm.isRef = true) :
    MF l Z h0 mn23 kb3 4 none ws ro5 #[(.ref a1), (.ref a2)] (Qrm3_1 Z a1 a2 c0 cz fm h0 n0) := by
  refine own_go "com/example/pourcode/pourcode/input/LineCounter" rfl #[rv a1, rv a2, un, un] (fun m => ef_3 m a1 a2) (plainFor_of_name pn_5) ?_
  intro p e s m below meth c s₁ S0 Bd hx hby hml hown hZ X0 e0 pre0
  have hnm := (name_of_methodNamed Bd.named Bd.method).1
  have N0 := Fr.nil n0
  have pre1 : PQ p e below m S0 s₁ 1 #[rv a1, rv a2, un, un] [(.ref a1)] := by
    intro t kt
    refine pre0 t ?_
    refine ow_aloadN X0.here hx hby d3_0 rfl rfl ?_
    exact kt
  obtain ⟨T2, X2, e2, st2⟩ := initO X0 hx hZ hown (wi hw 23 rfl) (wi hw 24 rfl) (wi hw 25 rfl) e0 (g := (mkF m 1 #[rv a1, rv a2, un, un] [(.ref a1)])) rfl (by rw [hml]; rfl) rfl (hb hby d3_1) (by decide) (W := 0) (by show 2 * 0 + _ ≤ _; exact Nat.le_of_eq rfl) (by decide)
  have pre2 : PQ p e below m S0 T2 4 #[rv a1, rv a2, un, un] [] := fun t kt => pre1 t (st2 _ kt)
  have pre3 : PQ p e below m S0 T2 6 #[rv a1, rv a2, un, un] [(.int 1), (.ref a1)] := by
    intro t kt
    refine pre2 t ?_
    refine ow_aloadN X2.here hx hby d3_4 rfl rfl ?_
    refine ow_iconst X2.here hx hby d3_5 (v := 1) rfl ?_
    exact kt
  obtain ⟨T4, h4, X4, e4, W4, pre4⟩ := ow_putF pre3 X2 hx hZ hown (host := "") (Or.inl (wi hw 26 rfl)) Via.refl e2 Fl_a1 E_a1 (Or.inl (wi hw 27 rfl)) (wi hw 18 rfl) (ty := .int) (by decide) rfl rfl hby d3_6
  have N4 := Fr.snoc X4 N0 ge_a1
  have K4 := (Keep.refl h0 [a1]).wr W4 (Or.inl (List.mem_of_getElem? (i := 0) rfl))
  have Z4 := Nat.le_trans Z0 (Keep.of_wr W4).1
  have E_a1_5 := E_a1.wr W4
  have Fl_a1_6 := Fl_a1.same W4
  have Fb_a1_7 := Fb_a1.other W4 (Or.inr (slot_ne (Or.inr (wi hw 29 rfl)) (Or.inl (wi hw 27 rfl)) (by decide) (t := (.object "java/lang/String")) (t' := .int) (by decide) (by decide)))
  have Fh_a1_8 := Fh_a1.other W4 (Or.inr (slot_ne (Or.inr (wi hw 44 rfl)) (Or.inl (wi hw 27 rfl)) (by decide) (t := .char) (t' := .int) (by decide) (by decide)))
  have Fa_a1_9 := Fa_a1.other W4 (Or.inr (slot_ne (Or.inl (wi hw 104 rfl)) (Or.inl (wi hw 27 rfl)) (by decide) (t := .boolean) (t' := .int) (by decide) (by decide)))
  have E_a2_10 := E_a2.wr W4
  have SS_a2_11 := own_Swr SS_a2 W4 E_a1 (wi hw 18 rfl) (by decide)
  have sC_12 := sC.wr W4
  have sF_13 := sF.wr W4
  have sA_14 := sA.wr W4
  have sH_15 := sH.wr W4
  have sL_16 := sL.wr W4
  have pre17 : PQ p e below m S0 T4 11 #[rv a1, rv a2, un, un] [(.ref a2), (.ref a1)] := by
    intro t kt
    refine pre4 t ?_
    refine ow_aloadN X4.here hx hby d3_9 rfl rfl ?_
    refine ow_aloadN X4.here hx hby d3_10 rfl rfl ?_
    exact kt
  obtain ⟨T18, h18, X18, e18, W18, pre18⟩ := ow_putF pre17 X4 hx hZ hown (host := "") (Or.inl (wi hw 28 rfl)) Via.refl e4 Fb_a1_7 E_a1_5 (Or.inr ⟨(wi hw 29 rfl), rfl, hnm⟩) (wi hw 18 rfl) (ty := (.object "java/lang/String")) (by decide) rfl rfl hby d3_11
  have N18 := Fr.snoc X18 N4 ge_a1
  have K18 := K4.wr W18 (Or.inl (List.mem_of_getElem? (i := 0) rfl))
  have Z18 := Nat.le_trans Z4 (Keep.of_wr W18).1
  have E_a1_19 := E_a1_5.wr W18
  have Fl_a1_20 := Fl_a1_6.other W18 (Or.inr (slot_ne (Or.inl (wi hw 27 rfl)) (Or.inr (wi hw 29 rfl)) (by decide) (t := .int) (t' := (.object "java/lang/String")) (by decide) (by decide)))
  have Fb_a1_21 := Fb_a1_7.same W18
  have Fh_a1_22 := Fh_a1_8.other W18 (Or.inr (slot_ne (Or.inr (wi hw 44 rfl)) (Or.inr (wi hw 29 rfl)) (by decide) (t := .char) (t' := (.object "java/lang/String")) (by decide) (by decide)))
  have Fa_a1_23 := Fa_a1_9.other W18 (Or.inr (slot_ne (Or.inl (wi hw 104 rfl)) (Or.inr (wi hw 29 rfl)) (by decide) (t := .boolean) (t' := (.object "java/lang/String")) (by decide) (by decide)))
  have E_a2_24 := E_a2_10.wr W18
  have SS_a2_25 := own_Swr SS_a2_11 W18 E_a1_5 (wi hw 18 rfl) (by decide)
  have sC_26 := sC_12.wr W18
  have sF_27 := sF_13.wr W18
  have sA_28 := sA_14.wr W18
  have sH_29 := sH_15.wr W18
  have sL_30 := sL_16.wr W18
  have pre31 : PQ p e below m S0 T18 20 #[rv a1, rv a2, iv 0, iv 0] [(.ref a2), (.int 0)] := by
    intro t kt
    refine pre18 t ?_
    refine ow_iconst X18.here hx hby d3_14 (v := 0) rfl ?_
    refine ow_istoreN X18.here hx hby d3_15 (l' := #[rv a1, rv a2, iv 0, un]) rfl ?_
    refine ow_iconst X18.here hx hby d3_16 (v := 0) rfl ?_
    refine ow_istoreN X18.here hx hby d3_17 (l' := #[rv a1, rv a2, iv 0, iv 0]) rfl ?_
    refine ow_iloadN X18.here hx hby d3_18 rfl ?_
    refine ow_aloadN X18.here hx hby d3_19 rfl rfl ?_
    exact kt
  obtain ⟨cq32, kq32, q32a, q32b, q32c⟩ := isOf hZ e18 E_a2_24
  obtain ⟨_, _, ⟨T32, L32, k32, n32⟩, -, X32, ⟨Lc32, hQ32, l32, y32, z32⟩, st32⟩ := X18.virtualBack hx (y := mn0) (z := mn0) hown (mw hZ hw 30 rfl) (mw hZ hw 31 rfl) (notFace_of_selects (args := #[]) (mw hZ hw 33 rfl)) (mw hZ hw 33 rfl) (mw hZ hw 32 rfl) (by decide) (backOf (W := 1) (rm5S_1 l Z a0 hw [] a2 c0 cz h18 n0 Z18 SS_a2_25 sC_26 (hCS)) hZ (wi hw 34 rfl) (wi hw 5 rfl) (by decide) (by decide)) q32a q32c (g := (mkF m 20 #[rv a1, rv a2, iv 0, iv 0] [(.ref a2), (.int 0)])) rfl (by rw [hml]; rfl) (Steps.refl _) (argsL := []) (rest := [(.int 0)]) (lenOf pd_13 rfl) rfl (by show 2 * 0 + _ ≤ _; exact Nat.le_of_eq rfl) (hb hby d3_20) (fun _ _ => ⟨rfl, e18, (Nat.zero_le _), (Nat.zero_le _)⟩)
  dsimp only [Pt.U, Pt.locs, Pt.cells, Pt.slots] at X32 l32 y32 z32 st32 hQ32
  subst l32 y32 z32
  obtain ⟨rfl, N32q, e32⟩ := hQ32
  have N32 := Fr.app N18 N32q
  have pre32 : PQ p e below m S0 T32 23 #[rv a1, rv a2, iv 0, iv 0] [(.int 1), (.int 0)] := fun t kt => pre31 t (st32.trans kt)
  have pre33 : PQ p e below m S0 T32 29 #[rv a1, rv a2, iv 0, iv 0] [(.int 0), (.ref a2), (.int 0)] := by
    intro t kt
    refine pre32 t ?_
    refine ow_icmpNo X32.here hx hby d3_23 (tlt (by decide)).2.1 ?_
    refine ow_iloadN X32.here hx hby d3_26 rfl ?_
    refine ow_aloadN X32.here hx hby d3_27 rfl rfl ?_
    refine ow_iloadN X32.here hx hby d3_28 rfl ?_
    exact kt
  obtain ⟨cq34, kq34, q34a, q34b, q34c⟩ := isOf hZ e32 E_a2_24
  obtain ⟨_, _, ⟨T34, L34, k34, n34⟩, -, X34, ⟨Lc34, hQ34, l34, y34, z34⟩, st34⟩ := X32.virtualBack hx (y := mn2) (z := mn2) hown (mw hZ hw 74 rfl) (mw hZ hw 75 rfl) (notFace_of_selects (args := #[]) (mw hZ hw 77 rfl)) (mw hZ hw 77 rfl) (mw hZ hw 76 rfl) (by decide) (backOf (W := 1) (rm14S_10 l Z a0 hw [] a2 (0 : Int32) c0 cz fm h18 n0 Z18 SS_a2_25 sC_26 sF_27 sA_28 sH_29 sL_30 (hCS) (hFM) (rfl)) hZ (wi hw 78 rfl) (wi hw 5 rfl) (by decide) (by decide)) q34a q34c (g := (mkF m 29 #[rv a1, rv a2, iv 0, iv 0] [(.int 0), (.ref a2), (.int 0)])) rfl (by rw [hml]; rfl) (Steps.refl _) (argsL := [(.int 0)]) (rest := [(.int 0)]) (lenOf pd_24 rfl) rfl (by show 2 * 0 + _ ≤ _; exact Nat.le_of_eq rfl) (hb hby d3_29) (fun _ _ => ⟨rfl, e32, (Nat.zero_le _), (Nat.zero_le _)⟩)
  dsimp only [Pt.U, Pt.locs, Pt.cells, Pt.slots] at X34 l34 y34 z34 st34 hQ34
  subst l34 y34 z34
  obtain ⟨rfl, N34q, e34⟩ := hQ34
  have N34 := Fr.app N32 N34q
  have pre34 : PQ p e below m S0 T34 32 #[rv a1, rv a2, iv 0, iv 0] [(.int c0), (.int 0)] := fun t kt => pre33 t (st34.trans kt)
  obtain ⟨_, _, ⟨T35, L35, k35, n35⟩, -, X35, ⟨Lc35, hQ35, l35, y35, z35⟩, st35⟩ := Jvm.LawKit.callS X34 hx (y := mn8) hown (mw hZ hw 95 rfl) (mw hZ hw 96 rfl) (mw hZ hw 97 rfl) (mw hZ hw 98 rfl) (by decide) (backOf (W := 0) (rm19 l Z a0 hw [] (0 : Int32) c0 h18 n0) hZ (wi hw 98 rfl) (wi hw 97 rfl) (by decide) (by decide)) (g := (mkF m 32 #[rv a1, rv a2, iv 0, iv 0] [(.int c0), (.int 0)])) rfl (by rw [hml]; rfl) (argsL := [(.int 0), (.int c0)]) (rest := []) (lenOf pd_8 rfl) rfl (by show 2 * 0 + _ ≤ _; exact Nat.le_of_eq rfl) (hb hby d3_32) (fun _ _ => ⟨rfl, e34, (Nat.zero_le _), (Nat.zero_le _)⟩)
  dsimp only [Pt.U, Pt.locs, Pt.cells, Pt.slots] at X35 l35 y35 z35 st35 hQ35
  subst l35 y35 z35
  obtain ⟨rfl, N35q, e35⟩ := hQ35
  have N35 := Fr.app N34 N35q
  have pre35 : PQ p e below m S0 T35 35 #[rv a1, rv a2, iv 0, iv 0] [(.int (own_f19 (0 : Int32) c0))] := fun t kt => pre34 t (st35 _ kt)
  have pre36 : PQ p e below m S0 T35 20 #[rv a1, rv a2, iv ((own_f19 (0 : Int32) c0).toUInt32.toUInt16.toUInt32.toInt32), iv 1] [(.ref a2), (.int 1)] := by
    intro t kt
    refine pre35 t ?_
    refine XS.i2c X35.here hx rfl (hb hby d3_35) rfl ?_
    show SQ p e below m T35 36 #[rv a1, rv a2, iv 0, iv 0] [(.int ((own_f19 (0 : Int32) c0).toUInt32.toUInt16.toUInt32.toInt32))] _
    refine ow_istoreN X35.here hx hby d3_36 (l' := #[rv a1, rv a2, iv ((own_f19 (0 : Int32) c0).toUInt32.toUInt16.toUInt32.toInt32), iv 0]) rfl ?_
    refine ow_iinc X35.here hx hby d3_37 rfl (l' := #[rv a1, rv a2, iv ((own_f19 (0 : Int32) c0).toUInt32.toUInt16.toUInt32.toInt32), iv 1]) rfl ?_
    show SQ p e below m T35 40 #[rv a1, rv a2, iv ((own_f19 (0 : Int32) c0).toUInt32.toUInt16.toUInt32.toInt32), iv 1] [] _
    refine ow_goto X35.here hx hby d3_40 (pc' := 18) (by decide) (by decide) ?_
    refine ow_iloadN X35.here hx hby d3_18 rfl ?_
    refine ow_aloadN X35.here hx hby d3_19 rfl rfl ?_
    exact kt
  obtain ⟨cq37, kq37, q37a, q37b, q37c⟩ := isOf hZ e35 E_a2_24
  obtain ⟨_, _, ⟨T37, L37, k37, n37⟩, -, X37, ⟨Lc37, hQ37, l37, y37, z37⟩, st37⟩ := X35.virtualBack hx (y := mn0) (z := mn0) hown (mw hZ hw 30 rfl) (mw hZ hw 31 rfl) (notFace_of_selects (args := #[]) (mw hZ hw 33 rfl)) (mw hZ hw 33 rfl) (mw hZ hw 32 rfl) (by decide) (backOf (W := 1) (rm5S_1 l Z a0 hw [] a2 c0 cz h18 n0 Z18 SS_a2_25 sC_26 (hCS)) hZ (wi hw 34 rfl) (wi hw 5 rfl) (by decide) (by decide)) q37a q37c (g := (mkF m 20 #[rv a1, rv a2, iv ((own_f19 (0 : Int32) c0).toUInt32.toUInt16.toUInt32.toInt32), iv 1] [(.ref a2), (.int 1)])) rfl (by rw [hml]; rfl) (Steps.refl _) (argsL := []) (rest := [(.int 1)]) (lenOf pd_13 rfl) rfl (by show 2 * 0 + _ ≤ _; exact Nat.le_of_eq rfl) (hb hby d3_20) (fun _ _ => ⟨rfl, e35, (Nat.zero_le _), (Nat.zero_le _)⟩)
  dsimp only [Pt.U, Pt.locs, Pt.cells, Pt.slots] at X37 l37 y37 z37 st37 hQ37
  subst l37 y37 z37
  obtain ⟨rfl, N37q, e37⟩ := hQ37
  have N37 := Fr.app N35 N37q
  have pre37 : PQ p e below m S0 T37 23 #[rv a1, rv a2, iv ((own_f19 (0 : Int32) c0).toUInt32.toUInt16.toUInt32.toInt32), iv 1] [(.int 1), (.int 1)] := fun t kt => pre36 t (st37.trans kt)
  have pre38 : PQ p e below m S0 T37 45 #[rv a1, rv a2, iv ((own_f19 (0 : Int32) c0).toUInt32.toUInt16.toUInt32.toInt32), iv 1] [(.int ((own_f19 (0 : Int32) c0).toUInt32.toUInt16.toUInt32.toInt32)), (.ref a1)] := by
    intro t kt
    refine pre37 t ?_
    refine ow_icmpYes X37.here hx hby d3_23 (flt (by decide)).2.1 (pc' := 43) (by decide) (by decide) ?_
    refine ow_aloadN X37.here hx hby d3_43 rfl rfl ?_
    refine ow_iloadN X37.here hx hby d3_44 rfl ?_
    exact kt
  obtain ⟨T39, h39, X39, e39, W39, st39⟩ := putFN X37 hx hZ hown (wi hw 43 rfl) Via.refl e37 Fh_a1_22 E_a1_19 (Or.inr ⟨(wi hw 44 rfl), rfl, hnm⟩) (wi hw 18 rfl) (ty := .char) (v' := (.int (nar .char ((own_f19 (0 : Int32) c0).toUInt32.toUInt16.toUInt32.toInt32)))) (by decide) rfl (fits_nar_char _) (g := (mkF m 45 #[rv a1, rv a2, iv ((own_f19 (0 : Int32) c0).toUInt32.toUInt16.toUInt32.toInt32), iv 1] [(.int ((own_f19 (0 : Int32) c0).toUInt32.toUInt16.toUInt32.toInt32)), (.ref a1)])) rfl rfl (hb hby d3_45)
  have N39 := Fr.snoc X39 N37 ge_a1
  have K39 := K18.wr W39 (Or.inl (List.mem_of_getElem? (i := 0) rfl))
  have Z39 := Nat.le_trans Z18 (Keep.of_wr W39).1
  have E_a1_40 := E_a1_19.wr W39
  have Fl_a1_41 := Fl_a1_20.other W39 (Or.inr (slot_ne (Or.inl (wi hw 27 rfl)) (Or.inr (wi hw 44 rfl)) (by decide) (t := .int) (t' := .char) (by decide) (by decide)))
  have Fb_a1_42 := Fb_a1_21.other W39 (Or.inr (slot_ne (Or.inr (wi hw 29 rfl)) (Or.inr (wi hw 44 rfl)) (by decide) (t := (.object "java/lang/String")) (t' := .char) (by decide) (by decide)))
  have Fh_a1_43 := Fh_a1_22.same W39
  have Fa_a1_44 := Fa_a1_23.other W39 (Or.inr (slot_ne (Or.inl (wi hw 104 rfl)) (Or.inr (wi hw 44 rfl)) (by decide) (t := .boolean) (t' := .char) (by decide) (by decide)))
  have E_a2_45 := E_a2_24.wr W39
  have SS_a2_46 := own_Swr SS_a2_25 W39 E_a1_19 (wi hw 18 rfl) (by decide)
  have sC_47 := sC_26.wr W39
  have sF_48 := sF_27.wr W39
  have sA_49 := sA_28.wr W39
  have sH_50 := sH_29.wr W39
  have sL_51 := sL_30.wr W39
  have pre39 : PQ p e below m S0 T39 48 #[rv a1, rv a2, iv ((own_f19 (0 : Int32) c0).toUInt32.toUInt16.toUInt32.toInt32), iv 1] [] := fun t kt => pre38 t (st39 _ kt)
  obtain ⟨fs, hr, hu, hd, hW, hme⟩ := X39.leave (v := none) (fun _ => rfl)
  refine ⟨_, _, pre39 _ ?_, hu, hd, _, _, rfl, ?_, ⟨_, rfl⟩, hW, hme.mono (by decide) (by decide)⟩
  · show SQ p e below m T39 48 #[rv a1, rv a2, iv ((own_f19 (0 : Int32) c0).toUInt32.toUInt16.toUInt32.toInt32), iv 1] [] _
    exact X39.returnOut hx Bd.returns (hb hby d3_48) hr
  · show Qrm3_1 Z a1 a2 c0 cz fm h0 n0 _ T39.heap _
    rw [e39]
    exact ⟨rfl, N39, K39, E_a1_40, Fl_a1_41, Fb_a1_42, Fh_a1_43, Fa_a1_44⟩
def Qrm3_2 (Z : State) (a1 a2 : Addr) (c0 c1 cz : Int32) (fm : Value) (h0 : Heap) (n0 : Nat) (v : Option Value) (h : Heap) (L : List Loc) : Prop := v = none ∧ Fr n0 L ∧ Keep h0 h [a1] ∧ exa1 Z h a1 ∧ fld2 Z h a1 (.int 1) ∧ fld4 Z h a1 (.ref a2) ∧ fld5 Z h a1 (.int (own_hg [c0, c1])) ∧ fld3 Z h a1 (.int 0)

theorem rm3_2 (l : Launch) (Z : State) (a0 : Array Value) (hw : HW a0 Z) (ws : List Jvm.Cond) (a1 a2 : Addr) (c0 c1 cz : Int32) (fm : Value) (h0 : Heap) (n0 : Nat) (Z0 : n0 ≤ h0.size) (E_a1 : exa1 Z h0 a1) (Fl_a1 : fld2 Z h0 a1 (.int 0)) (Fb_a1 : fld4 Z h0 a1 .null) (Fh_a1 : fld5 Z h0 a1 (.int 0)) (Fa_a1 : fld3 Z h0 a1 (.int 0)) (E_a2 : exa0 Z h0 a2) (SS_a2 : own_S Z h0 a2 [c0, c1]) (sC : sta4 Z h0 (.int cz)) (sF : sta3 Z h0 fm) (sA : sta0 Z h0 (.int 1)) (sH : sta1 Z h0 (.int 0)) (sL : sta2 Z h0 (.int 8)) (ge_a1 : n0 ≤ a1) (hCS : ¬ (cz = (0 : Int32))) (hFM : fm.isRef = true) :
    MF l Z h0 mn23 kb3 4 none ws ro5 #[(.ref a1), (.ref a2)] (Qrm3_2 Z a1 a2 c0 c1 cz fm h0 n0) := by
  refine own_go "com/example/pourcode/pourcode/input/LineCounter" rfl #[rv a1, rv a2, un, un] (fun m => ef_3 m a1 a2) (plainFor_of_name pn_5) ?_
  intro p e s m below meth c s₁ S0 Bd hx hby hml hown hZ X0 e0 pre0
  have hnm := (name_of_methodNamed Bd.named Bd.method).1
  have N0 := Fr.nil n0
  have pre1 : PQ p e below m S0 s₁ 1 #[rv a1, rv a2, un, un] [(.ref a1)] := by
    intro t kt
    refine pre0 t ?_
    refine ow_aloadN X0.here hx hby d3_0 rfl rfl ?_
    exact kt
  obtain ⟨T2, X2, e2, st2⟩ := initO X0 hx hZ hown (wi hw 23 rfl) (wi hw 24 rfl) (wi hw 25 rfl) e0 (g := (mkF m 1 #[rv a1, rv a2, un, un] [(.ref a1)])) rfl (by rw [hml]; rfl) rfl (hb hby d3_1) (by decide) (W := 0) (by show 2 * 0 + _ ≤ _; exact Nat.le_of_eq rfl) (by decide)
  have pre2 : PQ p e below m S0 T2 4 #[rv a1, rv a2, un, un] [] := fun t kt => pre1 t (st2 _ kt)
  have pre3 : PQ p e below m S0 T2 6 #[rv a1, rv a2, un, un] [(.int 1), (.ref a1)] := by
    intro t kt
    refine pre2 t ?_
    refine ow_aloadN X2.here hx hby d3_4 rfl rfl ?_
    refine ow_iconst X2.here hx hby d3_5 (v := 1) rfl ?_
    exact kt
  obtain ⟨T4, h4, X4, e4, W4, pre4⟩ := ow_putF pre3 X2 hx hZ hown (host := "") (Or.inl (wi hw 26 rfl)) Via.refl e2 Fl_a1 E_a1 (Or.inl (wi hw 27 rfl)) (wi hw 18 rfl) (ty := .int) (by decide) rfl rfl hby d3_6
  have N4 := Fr.snoc X4 N0 ge_a1
  have K4 := (Keep.refl h0 [a1]).wr W4 (Or.inl (List.mem_of_getElem? (i := 0) rfl))
  have Z4 := Nat.le_trans Z0 (Keep.of_wr W4).1
  have E_a1_5 := E_a1.wr W4
  have Fl_a1_6 := Fl_a1.same W4
  have Fb_a1_7 := Fb_a1.other W4 (Or.inr (slot_ne (Or.inr (wi hw 29 rfl)) (Or.inl (wi hw 27 rfl)) (by decide) (t := (.object "java/lang/String")) (t' := .int) (by decide) (by decide)))
  have Fh_a1_8 := Fh_a1.other W4 (Or.inr (slot_ne (Or.inr (wi hw 44 rfl)) (Or.inl (wi hw 27 rfl)) (by decide) (t := .char) (t' := .int) (by decide) (by decide)))
  have Fa_a1_9 := Fa_a1.other W4 (Or.inr (slot_ne (Or.inl (wi hw 104 rfl)) (Or.inl (wi hw 27 rfl)) (by decide) (t := .boolean) (t' := .int) (by decide) (by decide)))
  have E_a2_10 := E_a2.wr W4
  have SS_a2_11 := own_Swr SS_a2 W4 E_a1 (wi hw 18 rfl) (by decide)
  have sC_12 := sC.wr W4
  have sF_13 := sF.wr W4
  have sA_14 := sA.wr W4
  have sH_15 := sH.wr W4
  have sL_16 := sL.wr W4
  have pre17 : PQ p e below m S0 T4 11 #[rv a1, rv a2, un, un] [(.ref a2), (.ref a1)] := by
    intro t kt
    refine pre4 t ?_
    refine ow_aloadN X4.here hx hby d3_9 rfl rfl ?_
    refine ow_aloadN X4.here hx hby d3_10 rfl rfl ?_
    exact kt
  obtain ⟨T18, h18, X18, e18, W18, pre18⟩ := ow_putF pre17 X4 hx hZ hown (host := "") (Or.inl (wi hw 28 rfl)) Via.refl e4 Fb_a1_7 E_a1_5 (Or.inr ⟨(wi hw 29 rfl), rfl, hnm⟩) (wi hw 18 rfl) (ty := (.object "java/lang/String")) (by decide) rfl rfl hby d3_11
  have N18 := Fr.snoc X18 N4 ge_a1
  have K18 := K4.wr W18 (Or.inl (List.mem_of_getElem? (i := 0) rfl))
  have Z18 := Nat.le_trans Z4 (Keep.of_wr W18).1
  have E_a1_19 := E_a1_5.wr W18
  have Fl_a1_20 := Fl_a1_6.other W18 (Or.inr (slot_ne (Or.inl (wi hw 27 rfl)) (Or.inr (wi hw 29 rfl)) (by decide) (t := .int) (t' := (.object "java/lang/String")) (by decide) (by decide)))
  have Fb_a1_21 := Fb_a1_7.same W18
  have Fh_a1_22 := Fh_a1_8.other W18 (Or.inr (slot_ne (Or.inr (wi hw 44 rfl)) (Or.inr (wi hw 29 rfl)) (by decide) (t := .char) (t' := (.object "java/lang/String")) (by decide) (by decide)))
  have Fa_a1_23 := Fa_a1_9.other W18 (Or.inr (slot_ne (Or.inl (wi hw 104 rfl)) (Or.inr (wi hw 29 rfl)) (by decide) (t := .boolean) (t' := (.object "java/lang/String")) (by decide) (by decide)))
  have E_a2_24 := E_a2_10.wr W18
  have SS_a2_25 := own_Swr SS_a2_11 W18 E_a1_5 (wi hw 18 rfl) (by decide)
  have sC_26 := sC_12.wr W18
  have sF_27 := sF_13.wr W18
  have sA_28 := sA_14.wr W18
  have sH_29 := sH_15.wr W18
  have sL_30 := sL_16.wr W18
  have pre31 : PQ p e below m S0 T18 20 #[rv a1, rv a2, iv 0, iv 0] [(.ref a2), (.int 0)] := by
    intro t kt
    refine pre18 t ?_
    refine ow_iconst X18.here hx hby d3_14 (v := 0) rfl ?_
    refine ow_istoreN X18.here hx hby d3_15 (l' := #[rv a1, rv a2, iv 0, un]) rfl ?_
    refine ow_iconst X18.here hx hby d3_16 (v := 0) rfl ?_
    refine ow_istoreN X18.here hx hby d3_17 (l' := #[rv a1, rv a2, iv 0, iv 0]) rfl ?_
    refine ow_iloadN X18.here hx hby d3_18 rfl ?_
    refine ow_aloadN X18.here hx hby d3_19 rfl rfl ?_
    exact kt
  obtain ⟨cq32, kq32, q32a, q32b, q32c⟩ := isOf hZ e18 E_a2_24
  obtain ⟨_, _, ⟨T32, L32, k32, n32⟩, -, X32, ⟨Lc32, hQ32, l32, y32, z32⟩, st32⟩ := X18.virtualBack hx (y := mn0) (z := mn0) hown (mw hZ hw 30 rfl) (mw hZ hw 31 rfl) (notFace_of_selects (args := #[]) (mw hZ hw 33 rfl)) (mw hZ hw 33 rfl) (mw hZ hw 32 rfl) (by decide) (backOf (W := 1) (rm5S_2 l Z a0 hw [] a2 c0 c1 cz h18 n0 Z18 SS_a2_25 sC_26 (hCS)) hZ (wi hw 34 rfl) (wi hw 5 rfl) (by decide) (by decide)) q32a q32c (g := (mkF m 20 #[rv a1, rv a2, iv 0, iv 0] [(.ref a2), (.int 0)])) rfl (by rw [hml]; rfl) (Steps.refl _) (argsL := []) (rest := [(.int 0)]) (lenOf pd_13 rfl) rfl (by show 2 * 0 + _ ≤ _; exact Nat.le_of_eq rfl) (hb hby d3_20) (fun _ _ => ⟨rfl, e18, (Nat.zero_le _), (Nat.zero_le _)⟩)
  dsimp only [Pt.U, Pt.locs, Pt.cells, Pt.slots] at X32 l32 y32 z32 st32 hQ32
  subst l32 y32 z32
  obtain ⟨rfl, N32q, e32⟩ := hQ32
  have N32 := Fr.app N18 N32q
  have pre32 : PQ p e below m S0 T32 23 #[rv a1, rv a2, iv 0, iv 0] [(.int 2), (.int 0)] := fun t kt => pre31 t (st32.trans kt)
  have pre33 : PQ p e below m S0 T32 29 #[rv a1, rv a2, iv 0, iv 0] [(.int 0), (.ref a2), (.int 0)] := by
    intro t kt
    refine pre32 t ?_
    refine ow_icmpNo X32.here hx hby d3_23 (tlt (by decide)).2.1 ?_
    refine ow_iloadN X32.here hx hby d3_26 rfl ?_
    refine ow_aloadN X32.here hx hby d3_27 rfl rfl ?_
    refine ow_iloadN X32.here hx hby d3_28 rfl ?_
    exact kt
  obtain ⟨cq34, kq34, q34a, q34b, q34c⟩ := isOf hZ e32 E_a2_24
  obtain ⟨_, _, ⟨T34, L34, k34, n34⟩, -, X34, ⟨Lc34, hQ34, l34, y34, z34⟩, st34⟩ := X32.virtualBack hx (y := mn2) (z := mn2) hown (mw hZ hw 74 rfl) (mw hZ hw 75 rfl) (notFace_of_selects (args := #[]) (mw hZ hw 77 rfl)) (mw hZ hw 77 rfl) (mw hZ hw 76 rfl) (by decide) (backOf (W := 1) (rm14S_20 l Z a0 hw [] a2 (0 : Int32) c0 c1 cz fm h18 n0 Z18 SS_a2_25 sC_26 sF_27 sA_28 sH_29 sL_30 (hCS) (hFM) (rfl)) hZ (wi hw 78 rfl) (wi hw 5 rfl) (by decide) (by decide)) q34a q34c (g := (mkF m 29 #[rv a1, rv a2, iv 0, iv 0] [(.int 0), (.ref a2), (.int 0)])) rfl (by rw [hml]; rfl) (Steps.refl _) (argsL := [(.int 0)]) (rest := [(.int 0)]) (lenOf pd_24 rfl) rfl (by show 2 * 0 + _ ≤ _; exact Nat.le_of_eq rfl) (hb hby d3_29) (fun _ _ => ⟨rfl, e32, (Nat.zero_le _), (Nat.zero_le _)⟩)
  dsimp only [Pt.U, Pt.locs, Pt.cells, Pt.slots] at X34 l34 y34 z34 st34 hQ34
  subst l34 y34 z34
  obtain ⟨rfl, N34q, e34⟩ := hQ34
  have N34 := Fr.app N32 N34q
  have pre34 : PQ p e below m S0 T34 32 #[rv a1, rv a2, iv 0, iv 0] [(.int c0), (.int 0)] := fun t kt => pre33 t (st34.trans kt)
  obtain ⟨_, _, ⟨T35, L35, k35, n35⟩, -, X35, ⟨Lc35, hQ35, l35, y35, z35⟩, st35⟩ := Jvm.LawKit.callS X34 hx (y := mn8) hown (mw hZ hw 95 rfl) (mw hZ hw 96 rfl) (mw hZ hw 97 rfl) (mw hZ hw 98 rfl) (by decide) (backOf (W := 0) (rm19 l Z a0 hw [] (0 : Int32) c0 h18 n0) hZ (wi hw 98 rfl) (wi hw 97 rfl) (by decide) (by decide)) (g := (mkF m 32 #[rv a1, rv a2, iv 0, iv 0] [(.int c0), (.int 0)])) rfl (by rw [hml]; rfl) (argsL := [(.int 0), (.int c0)]) (rest := []) (lenOf pd_8 rfl) rfl (by show 2 * 0 + _ ≤ _; exact Nat.le_of_eq rfl) (hb hby d3_32) (fun _ _ => ⟨rfl, e34, (Nat.zero_le _), (Nat.zero_le _)⟩)
  dsimp only [Pt.U, Pt.locs, Pt.cells, Pt.slots] at X35 l35 y35 z35 st35 hQ35
  subst l35 y35 z35
  obtain ⟨rfl, N35q, e35⟩ := hQ35
  have N35 := Fr.app N34 N35q
  have pre35 : PQ p e below m S0 T35 35 #[rv a1, rv a2, iv 0, iv 0] [(.int (own_f19 (0 : Int32) c0))] := fun t kt => pre34 t (st35 _ kt)
  have pre36 : PQ p e below m S0 T35 20 #[rv a1, rv a2, iv ((own_f19 (0 : Int32) c0).toUInt32.toUInt16.toUInt32.toInt32), iv 1] [(.ref a2), (.int 1)] := by
    intro t kt
    refine pre35 t ?_
    refine XS.i2c X35.here hx rfl (hb hby d3_35) rfl ?_
    show SQ p e below m T35 36 #[rv a1, rv a2, iv 0, iv 0] [(.int ((own_f19 (0 : Int32) c0).toUInt32.toUInt16.toUInt32.toInt32))] _
    refine ow_istoreN X35.here hx hby d3_36 (l' := #[rv a1, rv a2, iv ((own_f19 (0 : Int32) c0).toUInt32.toUInt16.toUInt32.toInt32), iv 0]) rfl ?_
    refine ow_iinc X35.here hx hby d3_37 rfl (l' := #[rv a1, rv a2, iv ((own_f19 (0 : Int32) c0).toUInt32.toUInt16.toUInt32.toInt32), iv 1]) rfl ?_
    show SQ p e below m T35 40 #[rv a1, rv a2, iv ((own_f19 (0 : Int32) c0).toUInt32.toUInt16.toUInt32.toInt32), iv 1] [] _
    refine ow_goto X35.here hx hby d3_40 (pc' := 18) (by decide) (by decide) ?_
    refine ow_iloadN X35.here hx hby d3_18 rfl ?_
    refine ow_aloadN X35.here hx hby d3_19 rfl rfl ?_
    exact kt
  obtain ⟨cq37, kq37, q37a, q37b, q37c⟩ := isOf hZ e35 E_a2_24
  obtain ⟨_, _, ⟨T37, L37, k37, n37⟩, -, X37, ⟨Lc37, hQ37, l37, y37, z37⟩, st37⟩ := X35.virtualBack hx (y := mn0) (z := mn0) hown (mw hZ hw 30 rfl) (mw hZ hw 31 rfl) (notFace_of_selects (args := #[]) (mw hZ hw 33 rfl)) (mw hZ hw 33 rfl) (mw hZ hw 32 rfl) (by decide) (backOf (W := 1) (rm5S_2 l Z a0 hw [] a2 c0 c1 cz h18 n0 Z18 SS_a2_25 sC_26 (hCS)) hZ (wi hw 34 rfl) (wi hw 5 rfl) (by decide) (by decide)) q37a q37c (g := (mkF m 20 #[rv a1, rv a2, iv ((own_f19 (0 : Int32) c0).toUInt32.toUInt16.toUInt32.toInt32), iv 1] [(.ref a2), (.int 1)])) rfl (by rw [hml]; rfl) (Steps.refl _) (argsL := []) (rest := [(.int 1)]) (lenOf pd_13 rfl) rfl (by show 2 * 0 + _ ≤ _; exact Nat.le_of_eq rfl) (hb hby d3_20) (fun _ _ => ⟨rfl, e35, (Nat.zero_le _), (Nat.zero_le _)⟩)
  dsimp only [Pt.U, Pt.locs, Pt.cells, Pt.slots] at X37 l37 y37 z37 st37 hQ37
  subst l37 y37 z37
  obtain ⟨rfl, N37q, e37⟩ := hQ37
  have N37 := Fr.app N35 N37q
  have pre37 : PQ p e below m S0 T37 23 #[rv a1, rv a2, iv ((own_f19 (0 : Int32) c0).toUInt32.toUInt16.toUInt32.toInt32), iv 1] [(.int 2), (.int 1)] := fun t kt => pre36 t (st37.trans kt)
  have pre38 : PQ p e below m S0 T37 29 #[rv a1, rv a2, iv ((own_f19 (0 : Int32) c0).toUInt32.toUInt16.toUInt32.toInt32), iv 1] [(.int 1), (.ref a2), (.int ((own_f19 (0 : Int32) c0).toUInt32.toUInt16.toUInt32.toInt32))] := by
    intro t kt
    refine pre37 t ?_
    refine ow_icmpNo X37.here hx hby d3_23 (tlt (by decide)).2.1 ?_
    refine ow_iloadN X37.here hx hby d3_26 rfl ?_
    refine ow_aloadN X37.here hx hby d3_27 rfl rfl ?_
    refine ow_iloadN X37.here hx hby d3_28 rfl ?_
    exact kt
  obtain ⟨cq39, kq39, q39a, q39b, q39c⟩ := isOf hZ e37 E_a2_24
  obtain ⟨_, _, ⟨T39, L39, k39, n39⟩, -, X39, ⟨Lc39, hQ39, l39, y39, z39⟩, st39⟩ := X37.virtualBack hx (y := mn2) (z := mn2) hown (mw hZ hw 74 rfl) (mw hZ hw 75 rfl) (notFace_of_selects (args := #[]) (mw hZ hw 77 rfl)) (mw hZ hw 77 rfl) (mw hZ hw 76 rfl) (by decide) (backOf (W := 1) (rm14S_21 l Z a0 hw [] a2 (1 : Int32) c0 c1 cz fm h18 n0 Z18 SS_a2_25 sC_26 sF_27 sA_28 sH_29 sL_30 (hCS) (hFM) (rfl)) hZ (wi hw 78 rfl) (wi hw 5 rfl) (by decide) (by decide)) q39a q39c (g := (mkF m 29 #[rv a1, rv a2, iv ((own_f19 (0 : Int32) c0).toUInt32.toUInt16.toUInt32.toInt32), iv 1] [(.int 1), (.ref a2), (.int ((own_f19 (0 : Int32) c0).toUInt32.toUInt16.toUInt32.toInt32))])) rfl (by rw [hml]; rfl) (Steps.refl _) (argsL := [(.int 1)]) (rest := [(.int ((own_f19 (0 : Int32) c0).toUInt32.toUInt16.toUInt32.toInt32))]) (lenOf pd_24 rfl) rfl (by show 2 * 0 + _ ≤ _; exact Nat.le_of_eq rfl) (hb hby d3_29) (fun _ _ => ⟨rfl, e37, (Nat.zero_le _), (Nat.zero_le _)⟩)
  dsimp only [Pt.U, Pt.locs, Pt.cells, Pt.slots] at X39 l39 y39 z39 st39 hQ39
  subst l39 y39 z39
  obtain ⟨rfl, N39q, e39⟩ := hQ39
  have N39 := Fr.app N37 N39q
  have pre39 : PQ p e below m S0 T39 32 #[rv a1, rv a2, iv ((own_f19 (0 : Int32) c0).toUInt32.toUInt16.toUInt32.toInt32), iv 1] [(.int c1), (.int ((own_f19 (0 : Int32) c0).toUInt32.toUInt16.toUInt32.toInt32))] := fun t kt => pre38 t (st39.trans kt)
  obtain ⟨_, _, ⟨T40, L40, k40, n40⟩, -, X40, ⟨Lc40, hQ40, l40, y40, z40⟩, st40⟩ := Jvm.LawKit.callS X39 hx (y := mn8) hown (mw hZ hw 95 rfl) (mw hZ hw 96 rfl) (mw hZ hw 97 rfl) (mw hZ hw 98 rfl) (by decide) (backOf (W := 0) (rm19 l Z a0 hw [] ((own_f19 (0 : Int32) c0).toUInt32.toUInt16.toUInt32.toInt32) c1 h18 n0) hZ (wi hw 98 rfl) (wi hw 97 rfl) (by decide) (by decide)) (g := (mkF m 32 #[rv a1, rv a2, iv ((own_f19 (0 : Int32) c0).toUInt32.toUInt16.toUInt32.toInt32), iv 1] [(.int c1), (.int ((own_f19 (0 : Int32) c0).toUInt32.toUInt16.toUInt32.toInt32))])) rfl (by rw [hml]; rfl) (argsL := [(.int ((own_f19 (0 : Int32) c0).toUInt32.toUInt16.toUInt32.toInt32)), (.int c1)]) (rest := []) (lenOf pd_8 rfl) rfl (by show 2 * 0 + _ ≤ _; exact Nat.le_of_eq rfl) (hb hby d3_32) (fun _ _ => ⟨rfl, e39, (Nat.zero_le _), (Nat.zero_le _)⟩)
  dsimp only [Pt.U, Pt.locs, Pt.cells, Pt.slots] at X40 l40 y40 z40 st40 hQ40
  subst l40 y40 z40
  obtain ⟨rfl, N40q, e40⟩ := hQ40
  have N40 := Fr.app N39 N40q
  have pre40 : PQ p e below m S0 T40 35 #[rv a1, rv a2, iv ((own_f19 (0 : Int32) c0).toUInt32.toUInt16.toUInt32.toInt32), iv 1] [(.int (own_f19 ((own_f19 (0 : Int32) c0).toUInt32.toUInt16.toUInt32.toInt32) c1))] := fun t kt => pre39 t (st40 _ kt)
  have pre41 : PQ p e below m S0 T40 20 #[rv a1, rv a2, iv ((own_f19 ((own_f19 (0 : Int32) c0).toUInt32.toUInt16.toUInt32.toInt32) c1).toUInt32.toUInt16.toUInt32.toInt32), iv 2] [(.ref a2), (.int 2)] := by
    intro t kt
    refine pre40 t ?_
    refine XS.i2c X40.here hx rfl (hb hby d3_35) rfl ?_
    show SQ p e below m T40 36 #[rv a1, rv a2, iv ((own_f19 (0 : Int32) c0).toUInt32.toUInt16.toUInt32.toInt32), iv 1] [(.int ((own_f19 ((own_f19 (0 : Int32) c0).toUInt32.toUInt16.toUInt32.toInt32) c1).toUInt32.toUInt16.toUInt32.toInt32))] _
    refine ow_istoreN X40.here hx hby d3_36 (l' := #[rv a1, rv a2, iv ((own_f19 ((own_f19 (0 : Int32) c0).toUInt32.toUInt16.toUInt32.toInt32) c1).toUInt32.toUInt16.toUInt32.toInt32), iv 1]) rfl ?_
    refine ow_iinc X40.here hx hby d3_37 rfl (l' := #[rv a1, rv a2, iv ((own_f19 ((own_f19 (0 : Int32) c0).toUInt32.toUInt16.toUInt32.toInt32) c1).toUInt32.toUInt16.toUInt32.toInt32), iv 2]) rfl ?_
    show SQ p e below m T40 40 #[rv a1, rv a2, iv ((own_f19 ((own_f19 (0 : Int32) c0).toUInt32.toUInt16.toUInt32.toInt32) c1).toUInt32.toUInt16.toUInt32.toInt32), iv 2] [] _
    refine ow_goto X40.here hx hby d3_40 (pc' := 18) (by decide) (by decide) ?_
    refine ow_iloadN X40.here hx hby d3_18 rfl ?_
    refine ow_aloadN X40.here hx hby d3_19 rfl rfl ?_
    exact kt
  obtain ⟨cq42, kq42, q42a, q42b, q42c⟩ := isOf hZ e40 E_a2_24
  obtain ⟨_, _, ⟨T42, L42, k42, n42⟩, -, X42, ⟨Lc42, hQ42, l42, y42, z42⟩, st42⟩ := X40.virtualBack hx (y := mn0) (z := mn0) hown (mw hZ hw 30 rfl) (mw hZ hw 31 rfl) (notFace_of_selects (args := #[]) (mw hZ hw 33 rfl)) (mw hZ hw 33 rfl) (mw hZ hw 32 rfl) (by decide) (backOf (W := 1) (rm5S_2 l Z a0 hw [] a2 c0 c1 cz h18 n0 Z18 SS_a2_25 sC_26 (hCS)) hZ (wi hw 34 rfl) (wi hw 5 rfl) (by decide) (by decide)) q42a q42c (g := (mkF m 20 #[rv a1, rv a2, iv ((own_f19 ((own_f19 (0 : Int32) c0).toUInt32.toUInt16.toUInt32.toInt32) c1).toUInt32.toUInt16.toUInt32.toInt32), iv 2] [(.ref a2), (.int 2)])) rfl (by rw [hml]; rfl) (Steps.refl _) (argsL := []) (rest := [(.int 2)]) (lenOf pd_13 rfl) rfl (by show 2 * 0 + _ ≤ _; exact Nat.le_of_eq rfl) (hb hby d3_20) (fun _ _ => ⟨rfl, e40, (Nat.zero_le _), (Nat.zero_le _)⟩)
  dsimp only [Pt.U, Pt.locs, Pt.cells, Pt.slots] at X42 l42 y42 z42 st42 hQ42
  subst l42 y42 z42
  obtain ⟨rfl, N42q, e42⟩ := hQ42
  have N42 := Fr.app N40 N42q
  have pre42 : PQ p e below m S0 T42 23 #[rv a1, rv a2, iv ((own_f19 ((own_f19 (0 : Int32) c0).toUInt32.toUInt16.toUInt32.toInt32) c1).toUInt32.toUInt16.toUInt32.toInt32), iv 2] [(.int 2), (.int 2)] := fun t kt => pre41 t (st42.trans kt)
  have pre43 : PQ p e below m S0 T42 45 #[rv a1, rv a2, iv ((own_f19 ((own_f19 (0 : Int32) c0).toUInt32.toUInt16.toUInt32.toInt32) c1).toUInt32.toUInt16.toUInt32.toInt32), iv 2] [(.int ((own_f19 ((own_f19 (0 : Int32) c0).toUInt32.toUInt16.toUInt32.toInt32) c1).toUInt32.toUInt16.toUInt32.toInt32)), (.ref a1)] := by
    intro t kt
    refine pre42 t ?_
    refine ow_icmpYes X42.here hx hby d3_23 (flt (by decide)).2.1 (pc' := 43) (by decide) (by decide) ?_
    refine ow_aloadN X42.here hx hby d3_43 rfl rfl ?_
    refine ow_iloadN X42.here hx hby d3_44 rfl ?_
    exact kt
  obtain ⟨T44, h44, X44, e44, W44, st44⟩ := putFN X42 hx hZ hown (wi hw 43 rfl) Via.refl e42 Fh_a1_22 E_a1_19 (Or.inr ⟨(wi hw 44 rfl), rfl, hnm⟩) (wi hw 18 rfl) (ty := .char) (v' := (.int (nar .char ((own_f19 ((own_f19 (0 : Int32) c0).toUInt32.toUInt16.toUInt32.toInt32) c1).toUInt32.toUInt16.toUInt32.toInt32)))) (by decide) rfl (fits_nar_char _) (g := (mkF m 45 #[rv a1, rv a2, iv ((own_f19 ((own_f19 (0 : Int32) c0).toUInt32.toUInt16.toUInt32.toInt32) c1).toUInt32.toUInt16.toUInt32.toInt32), iv 2] [(.int ((own_f19 ((own_f19 (0 : Int32) c0).toUInt32.toUInt16.toUInt32.toInt32) c1).toUInt32.toUInt16.toUInt32.toInt32)), (.ref a1)])) rfl rfl (hb hby d3_45)
  have N44 := Fr.snoc X44 N42 ge_a1
  have K44 := K18.wr W44 (Or.inl (List.mem_of_getElem? (i := 0) rfl))
  have Z44 := Nat.le_trans Z18 (Keep.of_wr W44).1
  have E_a1_45 := E_a1_19.wr W44
  have Fl_a1_46 := Fl_a1_20.other W44 (Or.inr (slot_ne (Or.inl (wi hw 27 rfl)) (Or.inr (wi hw 44 rfl)) (by decide) (t := .int) (t' := .char) (by decide) (by decide)))
  have Fb_a1_47 := Fb_a1_21.other W44 (Or.inr (slot_ne (Or.inr (wi hw 29 rfl)) (Or.inr (wi hw 44 rfl)) (by decide) (t := (.object "java/lang/String")) (t' := .char) (by decide) (by decide)))
  have Fh_a1_48 := Fh_a1_22.same W44
  have Fa_a1_49 := Fa_a1_23.other W44 (Or.inr (slot_ne (Or.inl (wi hw 104 rfl)) (Or.inr (wi hw 44 rfl)) (by decide) (t := .boolean) (t' := .char) (by decide) (by decide)))
  have E_a2_50 := E_a2_24.wr W44
  have SS_a2_51 := own_Swr SS_a2_25 W44 E_a1_19 (wi hw 18 rfl) (by decide)
  have sC_52 := sC_26.wr W44
  have sF_53 := sF_27.wr W44
  have sA_54 := sA_28.wr W44
  have sH_55 := sH_29.wr W44
  have sL_56 := sL_30.wr W44
  have pre44 : PQ p e below m S0 T44 48 #[rv a1, rv a2, iv ((own_f19 ((own_f19 (0 : Int32) c0).toUInt32.toUInt16.toUInt32.toInt32) c1).toUInt32.toUInt16.toUInt32.toInt32), iv 2] [] := fun t kt => pre43 t (st44 _ kt)
  obtain ⟨fs, hr, hu, hd, hW, hme⟩ := X44.leave (v := none) (fun _ => rfl)
  refine ⟨_, _, pre44 _ ?_, hu, hd, _, _, rfl, ?_, ⟨_, rfl⟩, hW, hme.mono (by decide) (by decide)⟩
  · show SQ p e below m T44 48 #[rv a1, rv a2, iv ((own_f19 ((own_f19 (0 : Int32) c0).toUInt32.toUInt16.toUInt32.toInt32) c1).toUInt32.toUInt16.toUInt32.toInt32), iv 2] [] _
    exact X44.returnOut hx Bd.returns (hb hby d3_48) hr
  · show Qrm3_2 Z a1 a2 c0 c1 cz fm h0 n0 _ T44.heap _
    rw [e44]
    exact ⟨rfl, N44, K44, E_a1_45, Fl_a1_46, Fb_a1_47, Fh_a1_48, Fa_a1_49⟩
def Qrm3S (Z : State) (a1 a2 : Addr) (cs : List Int32) (cz : Int32) (fm : Value) (h0 : Heap) (n0 : Nat) (v : Option Value) (h : Heap) (L : List Loc) : Prop := v = none ∧ Fr n0 L ∧ Keep h0 h [a1] ∧ exa1 Z h a1 ∧ fld2 Z h a1 (.int 1) ∧ fld4 Z h a1 (.ref a2) ∧ fld5 Z h a1 (.int (own_hg cs)) ∧ fld3 Z h a1 (.int 0)
theorem rm3S (l : Launch) (Z : State) (a0 : Array Value) (hw : HW a0 Z) (ws : List Jvm.Cond) (a1 a2 : Addr) (cs : List Int32) (cz : Int32) (fm : Value) (h0 : Heap) (n0 : Nat) (Z0 : n0 ≤ h0.size) (E_a1 : exa1 Z h0 a1) (Fl_a1 : fld2 Z h0 a1 (.int 0)) (Fb_a1 : fld4 Z h0 a1 .null) (Fh_a1 : fld5 Z h0 a1 (.int 0)) (Fa_a1 : fld3 Z h0 a1 (.int 0)) (E_a2 : exa0 Z h0 a2) (SS_a2 : own_S Z h0 a2 cs) (sC : sta4 Z h0 (.int cz)) (sF : sta3 Z h0 fm) (sA : sta0 Z h0 (.int 1)) (sH : sta1 Z h0 (.int 0)) (sL : sta2 Z h0 (.int 8)) (ge_a1 : n0 ≤ a1) (hCS : ¬ (cz = (0 : Int32))) (hFM : fm.isRef = true) (hk : cs.length ≤ 2) :
    MF l Z h0 mn23 kb3 4 none ws ro5 #[(.ref a1), (.ref a2)] (Qrm3S Z a1 a2 cs cz fm h0 n0) := by
  rcases cs with _ | ⟨c0, _ | ⟨c1, _ | ⟨c2, r⟩⟩⟩
  · exact rm3_0 l Z a0 hw ws a1 a2  cz fm h0 n0 Z0 E_a1 Fl_a1 Fb_a1 Fh_a1 Fa_a1 E_a2 SS_a2 sC sF sA sH sL ge_a1 hCS hFM
  · exact rm3_1 l Z a0 hw ws a1 a2 c0  cz fm h0 n0 Z0 E_a1 Fl_a1 Fb_a1 Fh_a1 Fa_a1 E_a2 SS_a2 sC sF sA sH sL ge_a1 hCS hFM
  · exact rm3_2 l Z a0 hw ws a1 a2 c0 c1  cz fm h0 n0 Z0 E_a1 Fl_a1 Fb_a1 Fh_a1 Fa_a1 E_a2 SS_a2 sC sF sA sH sL ge_a1 hCS hFM
  · exact absurd hk (by simp)
def Qrm20 (Z : State) (a1 : Addr) (p2 : Int32) (s1 : Addr) (ln hi ar : Int32) (cs : List Int32) (cz : Int32) (fm : Value) (h0 : Heap) (n0 : Nat) (v : Option Value) (h : Heap) (L : List Loc) : Prop := v = none ∧ Fr n0 L ∧ Keep h0 h [a1] ∧ exa1 Z h a1 ∧ fld2 Z h a1 (.int (own_sl cs hi ln ar p2)) ∧ fld4 Z h a1 (.ref s1) ∧ fld5 Z h a1 (.int hi) ∧ fld3 Z h a1 (.int (own_sa cs hi ar p2))
theorem d20_0 : decode kb2 0 = .ok (.iload_n 1, 1) := by decide +kernel
theorem d20_1 : decode kb2 1 = .ok (.aload_n 0, 1) := by decide +kernel
theorem d20_2 : decode kb2 2 = .ok (.getfield 33, 3) := by decide +kernel
theorem d20_5 : decode kb2 5 = .ok (.if_icmp .gt 31, 3) := by decide +kernel
theorem d20_8 : decode kb2 8 = .ok (.aload_n 0, 1) := by decide +kernel
theorem d20_9 : decode kb2 9 = .ok (.getfield 13, 3) := by decide +kernel
theorem d20_12 : decode kb2 12 = .ok (.iload_n 1, 1) := by decide +kernel
theorem d20_13 : decode kb2 13 = .ok (.invokevirtual 54, 3) := by decide +kernel
theorem d20_16 : decode kb2 16 = .ok (.ifCond .lt 20, 3) := by decide +kernel
theorem d20_19 : decode kb2 19 = .ok (.iload_n 1, 1) := by decide +kernel
theorem d20_20 : decode kb2 20 = .ok (.bipush 10, 2) := by decide +kernel
theorem d20_22 : decode kb2 22 = .ok (.if_icmp .ne 10, 3) := by decide +kernel
theorem d20_25 : decode kb2 25 = .ok (.aload_n 0, 1) := by decide +kernel
theorem d20_26 : decode kb2 26 = .ok (.getfield 58, 3) := by decide +kernel
theorem d20_29 : decode kb2 29 = .ok (.ifCond .ne 7, 3) := by decide +kernel
theorem d20_32 : decode kb2 32 = .ok (.iconst 1, 1) := by decide +kernel
theorem d20_33 : decode kb2 33 = .ok (.goto 4, 3) := by decide +kernel
theorem d20_36 : decode kb2 36 = .ok (.iconst 0, 1) := by decide +kernel
theorem d20_37 : decode kb2 37 = .ok (.istore_n 2, 1) := by decide +kernel
theorem d20_38 : decode kb2 38 = .ok (.iload_n 2, 1) := by decide +kernel
theorem d20_39 : decode kb2 39 = .ok (.ifCond .eq 13, 3) := by decide +kernel
theorem d20_42 : decode kb2 42 = .ok (.aload_n 0, 1) := by decide +kernel
theorem d20_43 : decode kb2 43 = .ok (.dup, 1) := by decide +kernel
theorem d20_44 : decode kb2 44 = .ok (.getfield 7, 3) := by decide +kernel
theorem d20_47 : decode kb2 47 = .ok (.iconst 1, 1) := by decide +kernel
theorem d20_48 : decode kb2 48 = .ok (.iadd, 1) := by decide +kernel
theorem d20_49 : decode kb2 49 = .ok (.putfield 7, 3) := by decide +kernel
theorem d20_52 : decode kb2 52 = .ok (.aload_n 0, 1) := by decide +kernel
theorem d20_53 : decode kb2 53 = .ok (.iload_n 2, 1) := by decide +kernel
theorem d20_54 : decode kb2 54 = .ok (.ifCond .eq 13, 3) := by decide +kernel
theorem d20_57 : decode kb2 57 = .ok (.iload_n 1, 1) := by decide +kernel
theorem d20_58 : decode kb2 58 = .ok (.bipush 13, 2) := by decide +kernel
theorem d20_60 : decode kb2 60 = .ok (.if_icmp .ne 7, 3) := by decide +kernel
theorem d20_63 : decode kb2 63 = .ok (.iconst 1, 1) := by decide +kernel
theorem d20_64 : decode kb2 64 = .ok (.goto 4, 3) := by decide +kernel
theorem d20_67 : decode kb2 67 = .ok (.iconst 0, 1) := by decide +kernel
theorem d20_68 : decode kb2 68 = .ok (.putfield 58, 3) := by decide +kernel
theorem d20_71 : decode kb2 71 = .ok (.return_, 1) := by decide +kernel
theorem ef_20 (m : MethodId) (x0 : Addr) (x1 : Int32) : entryFrame m #[(.ref x0), (.int x1)] 3 = mkF m 0 #[rv x0, iv x1, un] [] := by first | (simp [entryFrame, mkF, argsToLocals, Value.category]; done) | rfl
theorem rm20 (l : Launch) (Z : State) (a0 : Array Value) (hw : HW a0 Z) (ws : List Jvm.Cond) (a1 : Addr) (p2 : Int32) (s1 : Addr) (ln hi ar : Int32) (cs : List Int32) (cz : Int32) (fm : Value) (h0 : Heap) (n0 : Nat) (Z0 : n0 ≤ h0.size) (E_a1 : exa1 Z h0 a1) (Fl_a1 : fld2 Z h0 a1 (.int ln)) (Fb_a1 : fld4 Z h0 a1 (.ref s1)) (Fh_a1 : fld5 Z h0 a1 (.int hi)) (Fa_a1 : fld3 Z h0 a1 (.int ar)) (E_s1 : exa0 Z h0 s1) (SS_s1 : own_S Z h0 s1 cs) (sC : sta4 Z h0 (.int cz)) (sF : sta3 Z h0 fm) (sA : sta0 Z h0 (.int 1)) (sH : sta1 Z h0 (.int 0)) (sL : sta2 Z h0 (.int 8)) (ge_a1 : n0 ≤ a1) (hCS : ¬ (cz = (0 : Int32))) (hFM : fm.isRef = true) (hk : cs.length ≤ 2) (hch : ¬ p2 < 0 ∧ ¬ (65535 : Int32) < p2) :
    MF l Z h0 mn7 kb2 3 none ws ({ frames := 7, cells := 0, slots := 0, locals := 100 } : Room) #[(.ref a1), (.int p2)] (Qrm20 Z a1 p2 s1 ln hi ar cs cz fm h0 n0) := by
  refine own_go "com/example/pourcode/pourcode/input/LineCounter" rfl #[rv a1, iv p2, un] (fun m => ef_20 m a1 p2) (plainFor_of_name pn_5) ?_
  intro p e s m below meth c s₁ S0 Bd hx hby hml hown hZ X0 e0 pre0
  have N0 := Fr.nil n0
  have pre1 : PQ p e below m S0 s₁ 2 #[rv a1, iv p2, un] [(.ref a1), (.int p2)] := by
    intro t kt
    refine pre0 t ?_
    refine ow_iloadN X0.here hx hby d20_0 rfl ?_
    refine ow_aloadN X0.here hx hby d20_1 rfl rfl ?_
    exact kt
  obtain ⟨T2, X2, e2, pre2⟩ := ow_getF pre1 X0 hx hZ hown (host := "") (Or.inl (wi hw 43 rfl)) Via.refl e0 Fh_a1 hby d20_2
  by_cases hc5 : hi < p2
  · have pre3 : PQ p e below m S0 T2 36 #[rv a1, iv p2, un] [] := by
      intro t kt
      refine pre2 t ?_
      refine ow_icmpYes X2.here hx hby d20_5 (tlt hc5).2.2.1 (pc' := 36) (by decide) (by decide) ?_
      exact kt
    have pre4 : PQ p e below m S0 T2 68 #[rv a1, iv p2, iv 0] [(.int 0), (.ref a1)] := by
      intro t kt
      refine pre3 t ?_
      refine ow_iconst X2.here hx hby d20_36 (v := 0) rfl ?_
      refine ow_istoreN X2.here hx hby d20_37 (l' := #[rv a1, iv p2, iv 0]) rfl ?_
      refine ow_iloadN X2.here hx hby d20_38 rfl ?_
      refine ow_ifYes X2.here hx hby d20_39 ((if0 _ _).trans (teq (by decide)).1) (pc' := 52) (by decide) (by decide) ?_
      refine ow_aloadN X2.here hx hby d20_52 rfl rfl ?_
      refine ow_iloadN X2.here hx hby d20_53 rfl ?_
      refine ow_ifYes X2.here hx hby d20_54 ((if0 _ _).trans (teq (by decide)).1) (pc' := 67) (by decide) (by decide) ?_
      refine ow_iconst X2.here hx hby d20_67 (v := 0) rfl ?_
      exact kt
    obtain ⟨T5, h5, X5, e5, W5, st5⟩ := putFN X2 hx hZ hown (wi hw 103 rfl) Via.refl e2 Fa_a1 E_a1 (Or.inl (wi hw 104 rfl)) (wi hw 18 rfl) (ty := .boolean) (v' := (.int 0)) (by decide) rfl rfl (g := (mkF m 68 #[rv a1, iv p2, iv 0] [(.int 0), (.ref a1)])) rfl rfl (hb hby d20_68)
    have N5 := Fr.snoc X5 N0 ge_a1
    have K5 := (Keep.refl h0 [a1]).wr W5 (Or.inl (List.mem_of_getElem? (i := 0) rfl))
    have Z5 := Nat.le_trans Z0 (Keep.of_wr W5).1
    have E_a1_6 := E_a1.wr W5
    have Fl_a1_7 := Fl_a1.other W5 (Or.inr (slot_ne (Or.inl (wi hw 27 rfl)) (Or.inl (wi hw 104 rfl)) (by decide) (t := .int) (t' := .boolean) (by decide) (by decide)))
    have Fb_a1_8 := Fb_a1.other W5 (Or.inr (slot_ne (Or.inr (wi hw 29 rfl)) (Or.inl (wi hw 104 rfl)) (by decide) (t := (.object "java/lang/String")) (t' := .boolean) (by decide) (by decide)))
    have Fh_a1_9 := Fh_a1.other W5 (Or.inr (slot_ne (Or.inr (wi hw 44 rfl)) (Or.inl (wi hw 104 rfl)) (by decide) (t := .char) (t' := .boolean) (by decide) (by decide)))
    have Fa_a1_10 := Fa_a1.same W5
    have E_s1_11 := E_s1.wr W5
    have SS_s1_12 := own_Swr SS_s1 W5 E_a1 (wi hw 18 rfl) (by decide)
    have sC_13 := sC.wr W5
    have sF_14 := sF.wr W5
    have sA_15 := sA.wr W5
    have sH_16 := sH.wr W5
    have sL_17 := sL.wr W5
    have pre5 : PQ p e below m S0 T5 71 #[rv a1, iv p2, iv 0] [] := fun t kt => pre4 t (st5 _ kt)
    have FX18 : fld2 Z h5 a1 (.int (own_sl cs hi ln ar p2)) := by
      rw [show (own_sl cs hi ln ar p2) = ln from by
        unfold own_sl own_en
        repeat (first | rw [if_pos hc5] | rw [if_neg hc5] | rw [if_pos (show (0 : Int32) = 0 from rfl)] | rw [if_neg (show ¬ (1 : Int32) = 0 by decide)])]
      exact Fl_a1_7
    have FX19 : fld3 Z h5 a1 (.int (own_sa cs hi ar p2)) := by
      rw [show (own_sa cs hi ar p2) = (0 : Int32) from by
        unfold own_sa own_en
        repeat (first | rw [if_pos hc5] | rw [if_neg hc5] | rw [if_pos (show (0 : Int32) = 0 from rfl)] | rw [if_neg (show ¬ (1 : Int32) = 0 by decide)])]
      exact Fa_a1_10
    obtain ⟨fs, hr, hu, hd, hW, hme⟩ := X5.leave (v := none) (fun _ => rfl)
    refine ⟨_, _, pre5 _ ?_, hu, hd, _, _, rfl, ?_, ⟨_, rfl⟩, hW, hme.mono (by decide) (by decide)⟩
    · show SQ p e below m T5 71 #[rv a1, iv p2, iv 0] [] _
      exact X5.returnOut hx Bd.returns (hb hby d20_71) hr
    · show Qrm20 Z a1 p2 s1 ln hi ar cs cz fm h0 n0 _ T5.heap _
      rw [e5]
      exact ⟨rfl, N5, K5, E_a1_6, FX18, Fb_a1_8, Fh_a1_9, FX19⟩
  · have pre20 : PQ p e below m S0 T2 8 #[rv a1, iv p2, un] [] := by
      intro t kt
      refine pre2 t ?_
      refine ow_icmpNo X2.here hx hby d20_5 (flt hc5).2.2.1 ?_
      exact kt
    have pre21 : PQ p e below m S0 T2 9 #[rv a1, iv p2, un] [(.ref a1)] := by
      intro t kt
      refine pre20 t ?_
      refine ow_aloadN X2.here hx hby d20_8 rfl rfl ?_
      exact kt
    obtain ⟨T22, X22, e22, pre22⟩ := ow_getF pre21 X2 hx hZ hown (host := "") (Or.inl (wi hw 28 rfl)) Via.refl e2 Fb_a1 hby d20_9
    have pre23 : PQ p e below m S0 T22 13 #[rv a1, iv p2, un] [(.int p2), (.ref s1)] := by
      intro t kt
      refine pre22 t ?_
      refine ow_iloadN X22.here hx hby d20_12 rfl ?_
      exact kt
    obtain ⟨cq24, kq24, q24a, q24b, q24c⟩ := isOf hZ e22 E_s1
    obtain ⟨_, _, ⟨T24, L24, k24, n24⟩, -, X24, ⟨Lc24, hQ24, l24, y24, z24⟩, st24⟩ := X22.virtualBack hx (y := mn10) (z := mn10) hown (mw hZ hw 151 rfl) (mw hZ hw 152 rfl) (notFace_of_selects (args := #[]) (mw hZ hw 154 rfl)) (mw hZ hw 154 rfl) (mw hZ hw 153 rfl) (by decide) (backOf (W := 0) (rm34S l Z a0 hw [] s1 p2 cs cz fm h0 n0 Z0 SS_s1 sC sF sA sH sL (hCS) (hFM) (hk) (hch)) hZ (wi hw 155 rfl) (wi hw 5 rfl) (by decide) (by decide)) q24a q24c (g := (mkF m 13 #[rv a1, iv p2, un] [(.int p2), (.ref s1)])) rfl (by rw [hml]; rfl) (Steps.refl _) (argsL := [(.int p2)]) (rest := []) (lenOf pd_18 rfl) rfl (by show 2 * 0 + _ ≤ _; exact Nat.le_of_eq rfl) (hb hby d20_13) (fun _ _ => ⟨rfl, e22, (Nat.zero_le _), (Nat.zero_le _)⟩)
    dsimp only [Pt.U, Pt.locs, Pt.cells, Pt.slots] at X24 l24 y24 z24 st24 hQ24
    subst l24 y24 z24
    obtain ⟨rfl, N24q, e24⟩ := hQ24
    have N24 := Fr.app N0 N24q
    have pre24 : PQ p e below m S0 T24 16 #[rv a1, iv p2, un] [(.int (own_xi p2 cs))] := fun t kt => pre23 t (st24.trans kt)
    by_cases hc16 : (own_xi p2 cs) < (0 : Int32)
    · have pre25 : PQ p e below m S0 T24 36 #[rv a1, iv p2, un] [] := by
        intro t kt
        refine pre24 t ?_
        refine ow_ifYes X24.here hx hby d20_16 ((if0 _ _).trans (tlt hc16).1) (pc' := 36) (by decide) (by decide) ?_
        exact kt
      have pre26 : PQ p e below m S0 T24 68 #[rv a1, iv p2, iv 0] [(.int 0), (.ref a1)] := by
        intro t kt
        refine pre25 t ?_
        refine ow_iconst X24.here hx hby d20_36 (v := 0) rfl ?_
        refine ow_istoreN X24.here hx hby d20_37 (l' := #[rv a1, iv p2, iv 0]) rfl ?_
        refine ow_iloadN X24.here hx hby d20_38 rfl ?_
        refine ow_ifYes X24.here hx hby d20_39 ((if0 _ _).trans (teq (by decide)).1) (pc' := 52) (by decide) (by decide) ?_
        refine ow_aloadN X24.here hx hby d20_52 rfl rfl ?_
        refine ow_iloadN X24.here hx hby d20_53 rfl ?_
        refine ow_ifYes X24.here hx hby d20_54 ((if0 _ _).trans (teq (by decide)).1) (pc' := 67) (by decide) (by decide) ?_
        refine ow_iconst X24.here hx hby d20_67 (v := 0) rfl ?_
        exact kt
      obtain ⟨T27, h27, X27, e27, W27, st27⟩ := putFN X24 hx hZ hown (wi hw 103 rfl) Via.refl e24 Fa_a1 E_a1 (Or.inl (wi hw 104 rfl)) (wi hw 18 rfl) (ty := .boolean) (v' := (.int 0)) (by decide) rfl rfl (g := (mkF m 68 #[rv a1, iv p2, iv 0] [(.int 0), (.ref a1)])) rfl rfl (hb hby d20_68)
      have N27 := Fr.snoc X27 N24 ge_a1
      have K27 := (Keep.refl h0 [a1]).wr W27 (Or.inl (List.mem_of_getElem? (i := 0) rfl))
      have Z27 := Nat.le_trans Z0 (Keep.of_wr W27).1
      have E_a1_28 := E_a1.wr W27
      have Fl_a1_29 := Fl_a1.other W27 (Or.inr (slot_ne (Or.inl (wi hw 27 rfl)) (Or.inl (wi hw 104 rfl)) (by decide) (t := .int) (t' := .boolean) (by decide) (by decide)))
      have Fb_a1_30 := Fb_a1.other W27 (Or.inr (slot_ne (Or.inr (wi hw 29 rfl)) (Or.inl (wi hw 104 rfl)) (by decide) (t := (.object "java/lang/String")) (t' := .boolean) (by decide) (by decide)))
      have Fh_a1_31 := Fh_a1.other W27 (Or.inr (slot_ne (Or.inr (wi hw 44 rfl)) (Or.inl (wi hw 104 rfl)) (by decide) (t := .char) (t' := .boolean) (by decide) (by decide)))
      have Fa_a1_32 := Fa_a1.same W27
      have E_s1_33 := E_s1.wr W27
      have SS_s1_34 := own_Swr SS_s1 W27 E_a1 (wi hw 18 rfl) (by decide)
      have sC_35 := sC.wr W27
      have sF_36 := sF.wr W27
      have sA_37 := sA.wr W27
      have sH_38 := sH.wr W27
      have sL_39 := sL.wr W27
      have pre27 : PQ p e below m S0 T27 71 #[rv a1, iv p2, iv 0] [] := fun t kt => pre26 t (st27 _ kt)
      have FX40 : fld2 Z h27 a1 (.int (own_sl cs hi ln ar p2)) := by
        rw [show (own_sl cs hi ln ar p2) = ln from by
          unfold own_sl own_en
          repeat (first | rw [if_pos hc5] | rw [if_neg hc5] | rw [if_pos hc16] | rw [if_neg hc16] | rw [if_pos (show (0 : Int32) = 0 from rfl)] | rw [if_neg (show ¬ (1 : Int32) = 0 by decide)])]
        exact Fl_a1_29
      have FX41 : fld3 Z h27 a1 (.int (own_sa cs hi ar p2)) := by
        rw [show (own_sa cs hi ar p2) = (0 : Int32) from by
          unfold own_sa own_en
          repeat (first | rw [if_pos hc5] | rw [if_neg hc5] | rw [if_pos hc16] | rw [if_neg hc16] | rw [if_pos (show (0 : Int32) = 0 from rfl)] | rw [if_neg (show ¬ (1 : Int32) = 0 by decide)])]
        exact Fa_a1_32
      obtain ⟨fs, hr, hu, hd, hW, hme⟩ := X27.leave (v := none) (fun _ => rfl)
      refine ⟨_, _, pre27 _ ?_, hu, hd, _, _, rfl, ?_, ⟨_, rfl⟩, hW, hme.mono (by decide) (by decide)⟩
      · show SQ p e below m T27 71 #[rv a1, iv p2, iv 0] [] _
        exact X27.returnOut hx Bd.returns (hb hby d20_71) hr
      · show Qrm20 Z a1 p2 s1 ln hi ar cs cz fm h0 n0 _ T27.heap _
        rw [e27]
        exact ⟨rfl, N27, K27, E_a1_28, FX40, Fb_a1_30, Fh_a1_31, FX41⟩
    · have pre42 : PQ p e below m S0 T24 19 #[rv a1, iv p2, un] [] := by
        intro t kt
        refine pre24 t ?_
        refine ow_ifNo X24.here hx hby d20_16 ((if0 _ _).trans (flt hc16).1) ?_
        exact kt
      have pre43 : PQ p e below m S0 T24 22 #[rv a1, iv p2, un] [(.int 10), (.int p2)] := by
        intro t kt
        refine pre42 t ?_
        refine ow_iloadN X24.here hx hby d20_19 rfl ?_
        refine ow_bipush X24.here hx hby d20_20 (v := 10) rfl ?_
        exact kt
      by_cases hc22 : p2 = (10 : Int32)
      · have pre44 : PQ p e below m S0 T24 25 #[rv a1, iv p2, un] [] := by
          intro t kt
          refine pre43 t ?_
          refine ow_icmpNo X24.here hx hby d20_22 (teq hc22).2 ?_
          exact kt
        have pre45 : PQ p e below m S0 T24 26 #[rv a1, iv p2, un] [(.ref a1)] := by
          intro t kt
          refine pre44 t ?_
          refine ow_aloadN X24.here hx hby d20_25 rfl rfl ?_
          exact kt
        obtain ⟨T46, X46, e46, pre46⟩ := ow_getF pre45 X24 hx hZ hown (host := "") (Or.inl (wi hw 103 rfl)) Via.refl e24 Fa_a1 hby d20_26
        by_cases hc29 : ar = (0 : Int32)
        · have pre47 : PQ p e below m S0 T46 32 #[rv a1, iv p2, un] [] := by
            intro t kt
            refine pre46 t ?_
            refine ow_ifNo X46.here hx hby d20_29 ((if0 _ _).trans (teq hc29).2) ?_
            exact kt
          have pre48 : PQ p e below m S0 T46 44 #[rv a1, iv p2, iv 1] [(.ref a1), (.ref a1)] := by
            intro t kt
            refine pre47 t ?_
            refine ow_iconst X46.here hx hby d20_32 (v := 1) rfl ?_
            refine ow_goto X46.here hx hby d20_33 (pc' := 37) (by decide) (by decide) ?_
            refine ow_istoreN X46.here hx hby d20_37 (l' := #[rv a1, iv p2, iv 1]) rfl ?_
            refine ow_iloadN X46.here hx hby d20_38 rfl ?_
            refine ow_ifNo X46.here hx hby d20_39 ((if0 _ _).trans (feq (by decide)).1) ?_
            refine ow_aloadN X46.here hx hby d20_42 rfl rfl ?_
            refine ow_dup X46.here hx hby d20_43 rfl ?_
            exact kt
          obtain ⟨T49, X49, e49, pre49⟩ := ow_getF pre48 X46 hx hZ hown (host := "") (Or.inl (wi hw 26 rfl)) Via.refl e46 Fl_a1 hby d20_44
          have pre50 : PQ p e below m S0 T49 49 #[rv a1, iv p2, iv 1] [(.int (ln + (1 : Int32))), (.ref a1)] := by
            intro t kt
            refine pre49 t ?_
            refine ow_iconst X49.here hx hby d20_47 (v := 1) rfl ?_
            refine ow_iadd X49.here hx hby d20_48 ?_
            exact kt
          obtain ⟨T51, h51, X51, e51, W51, pre51⟩ := ow_putF pre50 X49 hx hZ hown (host := "") (Or.inl (wi hw 26 rfl)) Via.refl e49 Fl_a1 E_a1 (Or.inl (wi hw 27 rfl)) (wi hw 18 rfl) (ty := .int) (by decide) rfl rfl hby d20_49
          have N51 := Fr.snoc X51 N24 ge_a1
          have K51 := (Keep.refl h0 [a1]).wr W51 (Or.inl (List.mem_of_getElem? (i := 0) rfl))
          have Z51 := Nat.le_trans Z0 (Keep.of_wr W51).1
          have E_a1_52 := E_a1.wr W51
          have Fl_a1_53 := Fl_a1.same W51
          have Fb_a1_54 := Fb_a1.other W51 (Or.inr (slot_ne (Or.inr (wi hw 29 rfl)) (Or.inl (wi hw 27 rfl)) (by decide) (t := (.object "java/lang/String")) (t' := .int) (by decide) (by decide)))
          have Fh_a1_55 := Fh_a1.other W51 (Or.inr (slot_ne (Or.inr (wi hw 44 rfl)) (Or.inl (wi hw 27 rfl)) (by decide) (t := .char) (t' := .int) (by decide) (by decide)))
          have Fa_a1_56 := Fa_a1.other W51 (Or.inr (slot_ne (Or.inl (wi hw 104 rfl)) (Or.inl (wi hw 27 rfl)) (by decide) (t := .boolean) (t' := .int) (by decide) (by decide)))
          have E_s1_57 := E_s1.wr W51
          have SS_s1_58 := own_Swr SS_s1 W51 E_a1 (wi hw 18 rfl) (by decide)
          have sC_59 := sC.wr W51
          have sF_60 := sF.wr W51
          have sA_61 := sA.wr W51
          have sH_62 := sH.wr W51
          have sL_63 := sL.wr W51
          have pre64 : PQ p e below m S0 T51 60 #[rv a1, iv p2, iv 1] [(.int 13), (.int p2), (.ref a1)] := by
            intro t kt
            refine pre51 t ?_
            refine ow_aloadN X51.here hx hby d20_52 rfl rfl ?_
            refine ow_iloadN X51.here hx hby d20_53 rfl ?_
            refine ow_ifNo X51.here hx hby d20_54 ((if0 _ _).trans (feq (by decide)).1) ?_
            refine ow_iloadN X51.here hx hby d20_57 rfl ?_
            refine ow_bipush X51.here hx hby d20_58 (v := 13) rfl ?_
            exact kt
          by_cases hc60 : p2 = (13 : Int32)
          · have pre65 : PQ p e below m S0 T51 63 #[rv a1, iv p2, iv 1] [(.ref a1)] := by
              intro t kt
              refine pre64 t ?_
              refine ow_icmpNo X51.here hx hby d20_60 (teq hc60).2 ?_
              exact kt
            have pre66 : PQ p e below m S0 T51 68 #[rv a1, iv p2, iv 1] [(.int 1), (.ref a1)] := by
              intro t kt
              refine pre65 t ?_
              refine ow_iconst X51.here hx hby d20_63 (v := 1) rfl ?_
              refine ow_goto X51.here hx hby d20_64 (pc' := 68) (by decide) (by decide) ?_
              exact kt
            obtain ⟨T67, h67, X67, e67, W67, st67⟩ := putFN X51 hx hZ hown (wi hw 103 rfl) Via.refl e51 Fa_a1_56 E_a1_52 (Or.inl (wi hw 104 rfl)) (wi hw 18 rfl) (ty := .boolean) (v' := (.int 1)) (by decide) rfl rfl (g := (mkF m 68 #[rv a1, iv p2, iv 1] [(.int 1), (.ref a1)])) rfl rfl (hb hby d20_68)
            have N67 := Fr.snoc X67 N51 ge_a1
            have K67 := K51.wr W67 (Or.inl (List.mem_of_getElem? (i := 0) rfl))
            have Z67 := Nat.le_trans Z51 (Keep.of_wr W67).1
            have E_a1_68 := E_a1_52.wr W67
            have Fl_a1_69 := Fl_a1_53.other W67 (Or.inr (slot_ne (Or.inl (wi hw 27 rfl)) (Or.inl (wi hw 104 rfl)) (by decide) (t := .int) (t' := .boolean) (by decide) (by decide)))
            have Fb_a1_70 := Fb_a1_54.other W67 (Or.inr (slot_ne (Or.inr (wi hw 29 rfl)) (Or.inl (wi hw 104 rfl)) (by decide) (t := (.object "java/lang/String")) (t' := .boolean) (by decide) (by decide)))
            have Fh_a1_71 := Fh_a1_55.other W67 (Or.inr (slot_ne (Or.inr (wi hw 44 rfl)) (Or.inl (wi hw 104 rfl)) (by decide) (t := .char) (t' := .boolean) (by decide) (by decide)))
            have Fa_a1_72 := Fa_a1_56.same W67
            have E_s1_73 := E_s1_57.wr W67
            have SS_s1_74 := own_Swr SS_s1_58 W67 E_a1_52 (wi hw 18 rfl) (by decide)
            have sC_75 := sC_59.wr W67
            have sF_76 := sF_60.wr W67
            have sA_77 := sA_61.wr W67
            have sH_78 := sH_62.wr W67
            have sL_79 := sL_63.wr W67
            have pre67 : PQ p e below m S0 T67 71 #[rv a1, iv p2, iv 1] [] := fun t kt => pre66 t (st67 _ kt)
            have FX80 : fld2 Z h67 a1 (.int (own_sl cs hi ln ar p2)) := by
              rw [show (own_sl cs hi ln ar p2) = (ln + (1 : Int32)) from by
                unfold own_sl own_en
                repeat (first | rw [if_pos hc5] | rw [if_neg hc5] | rw [if_pos hc16] | rw [if_neg hc16] | rw [if_pos hc22] | rw [if_neg hc22] | rw [if_pos hc29] | rw [if_neg hc29] | rw [if_pos hc60] | rw [if_neg hc60] | rw [if_pos (show (0 : Int32) = 0 from rfl)] | rw [if_neg (show ¬ (1 : Int32) = 0 by decide)])]
              exact Fl_a1_69
            have FX81 : fld3 Z h67 a1 (.int (own_sa cs hi ar p2)) := by
              rw [show (own_sa cs hi ar p2) = (1 : Int32) from by
                unfold own_sa own_en
                repeat (first | rw [if_pos hc5] | rw [if_neg hc5] | rw [if_pos hc16] | rw [if_neg hc16] | rw [if_pos hc22] | rw [if_neg hc22] | rw [if_pos hc29] | rw [if_neg hc29] | rw [if_pos hc60] | rw [if_neg hc60] | rw [if_pos (show (0 : Int32) = 0 from rfl)] | rw [if_neg (show ¬ (1 : Int32) = 0 by decide)])]
              exact Fa_a1_72
            obtain ⟨fs, hr, hu, hd, hW, hme⟩ := X67.leave (v := none) (fun _ => rfl)
            refine ⟨_, _, pre67 _ ?_, hu, hd, _, _, rfl, ?_, ⟨_, rfl⟩, hW, hme.mono (by decide) (by decide)⟩
            · show SQ p e below m T67 71 #[rv a1, iv p2, iv 1] [] _
              exact X67.returnOut hx Bd.returns (hb hby d20_71) hr
            · show Qrm20 Z a1 p2 s1 ln hi ar cs cz fm h0 n0 _ T67.heap _
              rw [e67]
              exact ⟨rfl, N67, K67, E_a1_68, FX80, Fb_a1_70, Fh_a1_71, FX81⟩
          · have pre82 : PQ p e below m S0 T51 67 #[rv a1, iv p2, iv 1] [(.ref a1)] := by
              intro t kt
              refine pre64 t ?_
              refine ow_icmpYes X51.here hx hby d20_60 (feq hc60).2 (pc' := 67) (by decide) (by decide) ?_
              exact kt
            have pre83 : PQ p e below m S0 T51 68 #[rv a1, iv p2, iv 1] [(.int 0), (.ref a1)] := by
              intro t kt
              refine pre82 t ?_
              refine ow_iconst X51.here hx hby d20_67 (v := 0) rfl ?_
              exact kt
            obtain ⟨T84, h84, X84, e84, W84, st84⟩ := putFN X51 hx hZ hown (wi hw 103 rfl) Via.refl e51 Fa_a1_56 E_a1_52 (Or.inl (wi hw 104 rfl)) (wi hw 18 rfl) (ty := .boolean) (v' := (.int 0)) (by decide) rfl rfl (g := (mkF m 68 #[rv a1, iv p2, iv 1] [(.int 0), (.ref a1)])) rfl rfl (hb hby d20_68)
            have N84 := Fr.snoc X84 N51 ge_a1
            have K84 := K51.wr W84 (Or.inl (List.mem_of_getElem? (i := 0) rfl))
            have Z84 := Nat.le_trans Z51 (Keep.of_wr W84).1
            have E_a1_85 := E_a1_52.wr W84
            have Fl_a1_86 := Fl_a1_53.other W84 (Or.inr (slot_ne (Or.inl (wi hw 27 rfl)) (Or.inl (wi hw 104 rfl)) (by decide) (t := .int) (t' := .boolean) (by decide) (by decide)))
            have Fb_a1_87 := Fb_a1_54.other W84 (Or.inr (slot_ne (Or.inr (wi hw 29 rfl)) (Or.inl (wi hw 104 rfl)) (by decide) (t := (.object "java/lang/String")) (t' := .boolean) (by decide) (by decide)))
            have Fh_a1_88 := Fh_a1_55.other W84 (Or.inr (slot_ne (Or.inr (wi hw 44 rfl)) (Or.inl (wi hw 104 rfl)) (by decide) (t := .char) (t' := .boolean) (by decide) (by decide)))
            have Fa_a1_89 := Fa_a1_56.same W84
            have E_s1_90 := E_s1_57.wr W84
            have SS_s1_91 := own_Swr SS_s1_58 W84 E_a1_52 (wi hw 18 rfl) (by decide)
            have sC_92 := sC_59.wr W84
            have sF_93 := sF_60.wr W84
            have sA_94 := sA_61.wr W84
            have sH_95 := sH_62.wr W84
            have sL_96 := sL_63.wr W84
            have pre84 : PQ p e below m S0 T84 71 #[rv a1, iv p2, iv 1] [] := fun t kt => pre83 t (st84 _ kt)
            have FX97 : fld2 Z h84 a1 (.int (own_sl cs hi ln ar p2)) := by
              rw [show (own_sl cs hi ln ar p2) = (ln + (1 : Int32)) from by
                unfold own_sl own_en
                repeat (first | rw [if_pos hc5] | rw [if_neg hc5] | rw [if_pos hc16] | rw [if_neg hc16] | rw [if_pos hc22] | rw [if_neg hc22] | rw [if_pos hc29] | rw [if_neg hc29] | rw [if_pos hc60] | rw [if_neg hc60] | rw [if_pos (show (0 : Int32) = 0 from rfl)] | rw [if_neg (show ¬ (1 : Int32) = 0 by decide)])]
              exact Fl_a1_86
            have FX98 : fld3 Z h84 a1 (.int (own_sa cs hi ar p2)) := by
              rw [show (own_sa cs hi ar p2) = (0 : Int32) from by
                unfold own_sa own_en
                repeat (first | rw [if_pos hc5] | rw [if_neg hc5] | rw [if_pos hc16] | rw [if_neg hc16] | rw [if_pos hc22] | rw [if_neg hc22] | rw [if_pos hc29] | rw [if_neg hc29] | rw [if_pos hc60] | rw [if_neg hc60] | rw [if_pos (show (0 : Int32) = 0 from rfl)] | rw [if_neg (show ¬ (1 : Int32) = 0 by decide)])]
              exact Fa_a1_89
            obtain ⟨fs, hr, hu, hd, hW, hme⟩ := X84.leave (v := none) (fun _ => rfl)
            refine ⟨_, _, pre84 _ ?_, hu, hd, _, _, rfl, ?_, ⟨_, rfl⟩, hW, hme.mono (by decide) (by decide)⟩
            · show SQ p e below m T84 71 #[rv a1, iv p2, iv 1] [] _
              exact X84.returnOut hx Bd.returns (hb hby d20_71) hr
            · show Qrm20 Z a1 p2 s1 ln hi ar cs cz fm h0 n0 _ T84.heap _
              rw [e84]
              exact ⟨rfl, N84, K84, E_a1_85, FX97, Fb_a1_87, Fh_a1_88, FX98⟩
        · have pre99 : PQ p e below m S0 T46 36 #[rv a1, iv p2, un] [] := by
            intro t kt
            refine pre46 t ?_
            refine ow_ifYes X46.here hx hby d20_29 ((if0 _ _).trans (feq hc29).2) (pc' := 36) (by decide) (by decide) ?_
            exact kt
          have pre100 : PQ p e below m S0 T46 68 #[rv a1, iv p2, iv 0] [(.int 0), (.ref a1)] := by
            intro t kt
            refine pre99 t ?_
            refine ow_iconst X46.here hx hby d20_36 (v := 0) rfl ?_
            refine ow_istoreN X46.here hx hby d20_37 (l' := #[rv a1, iv p2, iv 0]) rfl ?_
            refine ow_iloadN X46.here hx hby d20_38 rfl ?_
            refine ow_ifYes X46.here hx hby d20_39 ((if0 _ _).trans (teq (by decide)).1) (pc' := 52) (by decide) (by decide) ?_
            refine ow_aloadN X46.here hx hby d20_52 rfl rfl ?_
            refine ow_iloadN X46.here hx hby d20_53 rfl ?_
            refine ow_ifYes X46.here hx hby d20_54 ((if0 _ _).trans (teq (by decide)).1) (pc' := 67) (by decide) (by decide) ?_
            refine ow_iconst X46.here hx hby d20_67 (v := 0) rfl ?_
            exact kt
          obtain ⟨T101, h101, X101, e101, W101, st101⟩ := putFN X46 hx hZ hown (wi hw 103 rfl) Via.refl e46 Fa_a1 E_a1 (Or.inl (wi hw 104 rfl)) (wi hw 18 rfl) (ty := .boolean) (v' := (.int 0)) (by decide) rfl rfl (g := (mkF m 68 #[rv a1, iv p2, iv 0] [(.int 0), (.ref a1)])) rfl rfl (hb hby d20_68)
          have N101 := Fr.snoc X101 N24 ge_a1
          have K101 := (Keep.refl h0 [a1]).wr W101 (Or.inl (List.mem_of_getElem? (i := 0) rfl))
          have Z101 := Nat.le_trans Z0 (Keep.of_wr W101).1
          have E_a1_102 := E_a1.wr W101
          have Fl_a1_103 := Fl_a1.other W101 (Or.inr (slot_ne (Or.inl (wi hw 27 rfl)) (Or.inl (wi hw 104 rfl)) (by decide) (t := .int) (t' := .boolean) (by decide) (by decide)))
          have Fb_a1_104 := Fb_a1.other W101 (Or.inr (slot_ne (Or.inr (wi hw 29 rfl)) (Or.inl (wi hw 104 rfl)) (by decide) (t := (.object "java/lang/String")) (t' := .boolean) (by decide) (by decide)))
          have Fh_a1_105 := Fh_a1.other W101 (Or.inr (slot_ne (Or.inr (wi hw 44 rfl)) (Or.inl (wi hw 104 rfl)) (by decide) (t := .char) (t' := .boolean) (by decide) (by decide)))
          have Fa_a1_106 := Fa_a1.same W101
          have E_s1_107 := E_s1.wr W101
          have SS_s1_108 := own_Swr SS_s1 W101 E_a1 (wi hw 18 rfl) (by decide)
          have sC_109 := sC.wr W101
          have sF_110 := sF.wr W101
          have sA_111 := sA.wr W101
          have sH_112 := sH.wr W101
          have sL_113 := sL.wr W101
          have pre101 : PQ p e below m S0 T101 71 #[rv a1, iv p2, iv 0] [] := fun t kt => pre100 t (st101 _ kt)
          have FX114 : fld2 Z h101 a1 (.int (own_sl cs hi ln ar p2)) := by
            rw [show (own_sl cs hi ln ar p2) = ln from by
              unfold own_sl own_en
              repeat (first | rw [if_pos hc5] | rw [if_neg hc5] | rw [if_pos hc16] | rw [if_neg hc16] | rw [if_pos hc22] | rw [if_neg hc22] | rw [if_pos hc29] | rw [if_neg hc29] | rw [if_pos (show (0 : Int32) = 0 from rfl)] | rw [if_neg (show ¬ (1 : Int32) = 0 by decide)])]
            exact Fl_a1_103
          have FX115 : fld3 Z h101 a1 (.int (own_sa cs hi ar p2)) := by
            rw [show (own_sa cs hi ar p2) = (0 : Int32) from by
              unfold own_sa own_en
              repeat (first | rw [if_pos hc5] | rw [if_neg hc5] | rw [if_pos hc16] | rw [if_neg hc16] | rw [if_pos hc22] | rw [if_neg hc22] | rw [if_pos hc29] | rw [if_neg hc29] | rw [if_pos (show (0 : Int32) = 0 from rfl)] | rw [if_neg (show ¬ (1 : Int32) = 0 by decide)])]
            exact Fa_a1_106
          obtain ⟨fs, hr, hu, hd, hW, hme⟩ := X101.leave (v := none) (fun _ => rfl)
          refine ⟨_, _, pre101 _ ?_, hu, hd, _, _, rfl, ?_, ⟨_, rfl⟩, hW, hme.mono (by decide) (by decide)⟩
          · show SQ p e below m T101 71 #[rv a1, iv p2, iv 0] [] _
            exact X101.returnOut hx Bd.returns (hb hby d20_71) hr
          · show Qrm20 Z a1 p2 s1 ln hi ar cs cz fm h0 n0 _ T101.heap _
            rw [e101]
            exact ⟨rfl, N101, K101, E_a1_102, FX114, Fb_a1_104, Fh_a1_105, FX115⟩
      · have pre116 : PQ p e below m S0 T24 32 #[rv a1, iv p2, un] [] := by
          intro t kt
          refine pre43 t ?_
          refine ow_icmpYes X24.here hx hby d20_22 (feq hc22).2 (pc' := 32) (by decide) (by decide) ?_
          exact kt
        have pre117 : PQ p e below m S0 T24 44 #[rv a1, iv p2, iv 1] [(.ref a1), (.ref a1)] := by
          intro t kt
          refine pre116 t ?_
          refine ow_iconst X24.here hx hby d20_32 (v := 1) rfl ?_
          refine ow_goto X24.here hx hby d20_33 (pc' := 37) (by decide) (by decide) ?_
          refine ow_istoreN X24.here hx hby d20_37 (l' := #[rv a1, iv p2, iv 1]) rfl ?_
          refine ow_iloadN X24.here hx hby d20_38 rfl ?_
          refine ow_ifNo X24.here hx hby d20_39 ((if0 _ _).trans (feq (by decide)).1) ?_
          refine ow_aloadN X24.here hx hby d20_42 rfl rfl ?_
          refine ow_dup X24.here hx hby d20_43 rfl ?_
          exact kt
        obtain ⟨T118, X118, e118, pre118⟩ := ow_getF pre117 X24 hx hZ hown (host := "") (Or.inl (wi hw 26 rfl)) Via.refl e24 Fl_a1 hby d20_44
        have pre119 : PQ p e below m S0 T118 49 #[rv a1, iv p2, iv 1] [(.int (ln + (1 : Int32))), (.ref a1)] := by
          intro t kt
          refine pre118 t ?_
          refine ow_iconst X118.here hx hby d20_47 (v := 1) rfl ?_
          refine ow_iadd X118.here hx hby d20_48 ?_
          exact kt
        obtain ⟨T120, h120, X120, e120, W120, pre120⟩ := ow_putF pre119 X118 hx hZ hown (host := "") (Or.inl (wi hw 26 rfl)) Via.refl e118 Fl_a1 E_a1 (Or.inl (wi hw 27 rfl)) (wi hw 18 rfl) (ty := .int) (by decide) rfl rfl hby d20_49
        have N120 := Fr.snoc X120 N24 ge_a1
        have K120 := (Keep.refl h0 [a1]).wr W120 (Or.inl (List.mem_of_getElem? (i := 0) rfl))
        have Z120 := Nat.le_trans Z0 (Keep.of_wr W120).1
        have E_a1_121 := E_a1.wr W120
        have Fl_a1_122 := Fl_a1.same W120
        have Fb_a1_123 := Fb_a1.other W120 (Or.inr (slot_ne (Or.inr (wi hw 29 rfl)) (Or.inl (wi hw 27 rfl)) (by decide) (t := (.object "java/lang/String")) (t' := .int) (by decide) (by decide)))
        have Fh_a1_124 := Fh_a1.other W120 (Or.inr (slot_ne (Or.inr (wi hw 44 rfl)) (Or.inl (wi hw 27 rfl)) (by decide) (t := .char) (t' := .int) (by decide) (by decide)))
        have Fa_a1_125 := Fa_a1.other W120 (Or.inr (slot_ne (Or.inl (wi hw 104 rfl)) (Or.inl (wi hw 27 rfl)) (by decide) (t := .boolean) (t' := .int) (by decide) (by decide)))
        have E_s1_126 := E_s1.wr W120
        have SS_s1_127 := own_Swr SS_s1 W120 E_a1 (wi hw 18 rfl) (by decide)
        have sC_128 := sC.wr W120
        have sF_129 := sF.wr W120
        have sA_130 := sA.wr W120
        have sH_131 := sH.wr W120
        have sL_132 := sL.wr W120
        have pre133 : PQ p e below m S0 T120 60 #[rv a1, iv p2, iv 1] [(.int 13), (.int p2), (.ref a1)] := by
          intro t kt
          refine pre120 t ?_
          refine ow_aloadN X120.here hx hby d20_52 rfl rfl ?_
          refine ow_iloadN X120.here hx hby d20_53 rfl ?_
          refine ow_ifNo X120.here hx hby d20_54 ((if0 _ _).trans (feq (by decide)).1) ?_
          refine ow_iloadN X120.here hx hby d20_57 rfl ?_
          refine ow_bipush X120.here hx hby d20_58 (v := 13) rfl ?_
          exact kt
        by_cases hc60 : p2 = (13 : Int32)
        · have pre134 : PQ p e below m S0 T120 63 #[rv a1, iv p2, iv 1] [(.ref a1)] := by
            intro t kt
            refine pre133 t ?_
            refine ow_icmpNo X120.here hx hby d20_60 (teq hc60).2 ?_
            exact kt
          have pre135 : PQ p e below m S0 T120 68 #[rv a1, iv p2, iv 1] [(.int 1), (.ref a1)] := by
            intro t kt
            refine pre134 t ?_
            refine ow_iconst X120.here hx hby d20_63 (v := 1) rfl ?_
            refine ow_goto X120.here hx hby d20_64 (pc' := 68) (by decide) (by decide) ?_
            exact kt
          obtain ⟨T136, h136, X136, e136, W136, st136⟩ := putFN X120 hx hZ hown (wi hw 103 rfl) Via.refl e120 Fa_a1_125 E_a1_121 (Or.inl (wi hw 104 rfl)) (wi hw 18 rfl) (ty := .boolean) (v' := (.int 1)) (by decide) rfl rfl (g := (mkF m 68 #[rv a1, iv p2, iv 1] [(.int 1), (.ref a1)])) rfl rfl (hb hby d20_68)
          have N136 := Fr.snoc X136 N120 ge_a1
          have K136 := K120.wr W136 (Or.inl (List.mem_of_getElem? (i := 0) rfl))
          have Z136 := Nat.le_trans Z120 (Keep.of_wr W136).1
          have E_a1_137 := E_a1_121.wr W136
          have Fl_a1_138 := Fl_a1_122.other W136 (Or.inr (slot_ne (Or.inl (wi hw 27 rfl)) (Or.inl (wi hw 104 rfl)) (by decide) (t := .int) (t' := .boolean) (by decide) (by decide)))
          have Fb_a1_139 := Fb_a1_123.other W136 (Or.inr (slot_ne (Or.inr (wi hw 29 rfl)) (Or.inl (wi hw 104 rfl)) (by decide) (t := (.object "java/lang/String")) (t' := .boolean) (by decide) (by decide)))
          have Fh_a1_140 := Fh_a1_124.other W136 (Or.inr (slot_ne (Or.inr (wi hw 44 rfl)) (Or.inl (wi hw 104 rfl)) (by decide) (t := .char) (t' := .boolean) (by decide) (by decide)))
          have Fa_a1_141 := Fa_a1_125.same W136
          have E_s1_142 := E_s1_126.wr W136
          have SS_s1_143 := own_Swr SS_s1_127 W136 E_a1_121 (wi hw 18 rfl) (by decide)
          have sC_144 := sC_128.wr W136
          have sF_145 := sF_129.wr W136
          have sA_146 := sA_130.wr W136
          have sH_147 := sH_131.wr W136
          have sL_148 := sL_132.wr W136
          have pre136 : PQ p e below m S0 T136 71 #[rv a1, iv p2, iv 1] [] := fun t kt => pre135 t (st136 _ kt)
          have FX149 : fld2 Z h136 a1 (.int (own_sl cs hi ln ar p2)) := by
            rw [show (own_sl cs hi ln ar p2) = (ln + (1 : Int32)) from by
              unfold own_sl own_en
              repeat (first | rw [if_pos hc5] | rw [if_neg hc5] | rw [if_pos hc16] | rw [if_neg hc16] | rw [if_pos hc22] | rw [if_neg hc22] | rw [if_pos hc60] | rw [if_neg hc60] | rw [if_pos (show (0 : Int32) = 0 from rfl)] | rw [if_neg (show ¬ (1 : Int32) = 0 by decide)])]
            exact Fl_a1_138
          have FX150 : fld3 Z h136 a1 (.int (own_sa cs hi ar p2)) := by
            rw [show (own_sa cs hi ar p2) = (1 : Int32) from by
              unfold own_sa own_en
              repeat (first | rw [if_pos hc5] | rw [if_neg hc5] | rw [if_pos hc16] | rw [if_neg hc16] | rw [if_pos hc22] | rw [if_neg hc22] | rw [if_pos hc60] | rw [if_neg hc60] | rw [if_pos (show (0 : Int32) = 0 from rfl)] | rw [if_neg (show ¬ (1 : Int32) = 0 by decide)])]
            exact Fa_a1_141
          obtain ⟨fs, hr, hu, hd, hW, hme⟩ := X136.leave (v := none) (fun _ => rfl)
          refine ⟨_, _, pre136 _ ?_, hu, hd, _, _, rfl, ?_, ⟨_, rfl⟩, hW, hme.mono (by decide) (by decide)⟩
          · show SQ p e below m T136 71 #[rv a1, iv p2, iv 1] [] _
            exact X136.returnOut hx Bd.returns (hb hby d20_71) hr
          · show Qrm20 Z a1 p2 s1 ln hi ar cs cz fm h0 n0 _ T136.heap _
            rw [e136]
            exact ⟨rfl, N136, K136, E_a1_137, FX149, Fb_a1_139, Fh_a1_140, FX150⟩
        · have pre151 : PQ p e below m S0 T120 67 #[rv a1, iv p2, iv 1] [(.ref a1)] := by
            intro t kt
            refine pre133 t ?_
            refine ow_icmpYes X120.here hx hby d20_60 (feq hc60).2 (pc' := 67) (by decide) (by decide) ?_
            exact kt
          have pre152 : PQ p e below m S0 T120 68 #[rv a1, iv p2, iv 1] [(.int 0), (.ref a1)] := by
            intro t kt
            refine pre151 t ?_
            refine ow_iconst X120.here hx hby d20_67 (v := 0) rfl ?_
            exact kt
          obtain ⟨T153, h153, X153, e153, W153, st153⟩ := putFN X120 hx hZ hown (wi hw 103 rfl) Via.refl e120 Fa_a1_125 E_a1_121 (Or.inl (wi hw 104 rfl)) (wi hw 18 rfl) (ty := .boolean) (v' := (.int 0)) (by decide) rfl rfl (g := (mkF m 68 #[rv a1, iv p2, iv 1] [(.int 0), (.ref a1)])) rfl rfl (hb hby d20_68)
          have N153 := Fr.snoc X153 N120 ge_a1
          have K153 := K120.wr W153 (Or.inl (List.mem_of_getElem? (i := 0) rfl))
          have Z153 := Nat.le_trans Z120 (Keep.of_wr W153).1
          have E_a1_154 := E_a1_121.wr W153
          have Fl_a1_155 := Fl_a1_122.other W153 (Or.inr (slot_ne (Or.inl (wi hw 27 rfl)) (Or.inl (wi hw 104 rfl)) (by decide) (t := .int) (t' := .boolean) (by decide) (by decide)))
          have Fb_a1_156 := Fb_a1_123.other W153 (Or.inr (slot_ne (Or.inr (wi hw 29 rfl)) (Or.inl (wi hw 104 rfl)) (by decide) (t := (.object "java/lang/String")) (t' := .boolean) (by decide) (by decide)))
          have Fh_a1_157 := Fh_a1_124.other W153 (Or.inr (slot_ne (Or.inr (wi hw 44 rfl)) (Or.inl (wi hw 104 rfl)) (by decide) (t := .char) (t' := .boolean) (by decide) (by decide)))
          have Fa_a1_158 := Fa_a1_125.same W153
          have E_s1_159 := E_s1_126.wr W153
          have SS_s1_160 := own_Swr SS_s1_127 W153 E_a1_121 (wi hw 18 rfl) (by decide)
          have sC_161 := sC_128.wr W153
          have sF_162 := sF_129.wr W153
          have sA_163 := sA_130.wr W153
          have sH_164 := sH_131.wr W153
          have sL_165 := sL_132.wr W153
          have pre153 : PQ p e below m S0 T153 71 #[rv a1, iv p2, iv 1] [] := fun t kt => pre152 t (st153 _ kt)
          have FX166 : fld2 Z h153 a1 (.int (own_sl cs hi ln ar p2)) := by
            rw [show (own_sl cs hi ln ar p2) = (ln + (1 : Int32)) from by
              unfold own_sl own_en
              repeat (first | rw [if_pos hc5] | rw [if_neg hc5] | rw [if_pos hc16] | rw [if_neg hc16] | rw [if_pos hc22] | rw [if_neg hc22] | rw [if_pos hc60] | rw [if_neg hc60] | rw [if_pos (show (0 : Int32) = 0 from rfl)] | rw [if_neg (show ¬ (1 : Int32) = 0 by decide)])]
            exact Fl_a1_155
          have FX167 : fld3 Z h153 a1 (.int (own_sa cs hi ar p2)) := by
            rw [show (own_sa cs hi ar p2) = (0 : Int32) from by
              unfold own_sa own_en
              repeat (first | rw [if_pos hc5] | rw [if_neg hc5] | rw [if_pos hc16] | rw [if_neg hc16] | rw [if_pos hc22] | rw [if_neg hc22] | rw [if_pos hc60] | rw [if_neg hc60] | rw [if_pos (show (0 : Int32) = 0 from rfl)] | rw [if_neg (show ¬ (1 : Int32) = 0 by decide)])]
            exact Fa_a1_158
          obtain ⟨fs, hr, hu, hd, hW, hme⟩ := X153.leave (v := none) (fun _ => rfl)
          refine ⟨_, _, pre153 _ ?_, hu, hd, _, _, rfl, ?_, ⟨_, rfl⟩, hW, hme.mono (by decide) (by decide)⟩
          · show SQ p e below m T153 71 #[rv a1, iv p2, iv 1] [] _
            exact X153.returnOut hx Bd.returns (hb hby d20_71) hr
          · show Qrm20 Z a1 p2 s1 ln hi ar cs cz fm h0 n0 _ T153.heap _
            rw [e153]
            exact ⟨rfl, N153, K153, E_a1_154, FX166, Fb_a1_156, Fh_a1_157, FX167⟩
def Qrm7 (Z : State) (a1 a2 : Addr) (p3 p4 : Int32) (s1 : Addr) (ln hi ar : Int32) (cs : List Int32) (cz : Int32) (fm : Value) (kc : ClassId) (ts : List Int32) (no nl : Nat) (h0 : Heap) (n0 : Nat) (v : Option Value) (h : Heap) (L : List Loc) : Prop := v = none ∧ Fr n0 L ∧ Keep h0 h [a1] ∧ exa1 Z h a1 ∧ fld2 Z h a1 (.int (own_run cs hi (own_seg ts no nl) (ln, ar)).1) ∧ fld4 Z h a1 (.ref s1) ∧ fld5 Z h a1 (.int hi) ∧ fld3 Z h a1 (.int (own_run cs hi (own_seg ts no nl) (ln, ar)).2)
theorem d7_0 : decode kb18 0 = .ok (.iload_n 2, 1) := by decide +kernel
theorem d7_1 : decode kb18 1 = .ok (.istore 4, 2) := by decide +kernel
theorem d7_3 : decode kb18 3 = .ok (.iload 4, 2) := by decide +kernel
theorem d7_5 : decode kb18 5 = .ok (.iload_n 2, 1) := by decide +kernel
theorem d7_6 : decode kb18 6 = .ok (.iload_n 3, 1) := by decide +kernel
theorem d7_7 : decode kb18 7 = .ok (.iadd, 1) := by decide +kernel
theorem d7_8 : decode kb18 8 = .ok (.if_icmp .ge 17, 3) := by decide +kernel
theorem d7_11 : decode kb18 11 = .ok (.aload_n 0, 1) := by decide +kernel
theorem d7_12 : decode kb18 12 = .ok (.aload_n 1, 1) := by decide +kernel
theorem d7_13 : decode kb18 13 = .ok (.iload 4, 2) := by decide +kernel
theorem d7_15 : decode kb18 15 = .ok (.caload, 1) := by decide +kernel
theorem d7_16 : decode kb18 16 = .ok (.invokevirtual 50, 3) := by decide +kernel
theorem d7_19 : decode kb18 19 = .ok (.iinc 4 1, 3) := by decide +kernel
theorem d7_22 : decode kb18 22 = .ok (.goto (-19), 3) := by decide +kernel
theorem d7_25 : decode kb18 25 = .ok (.return_, 1) := by decide +kernel
theorem ef_7 (m : MethodId) (x0 x1 : Addr) (x2 x3 : Int32) : entryFrame m #[(.ref x0), (.ref x1), (.int x2), (.int x3)] 5 = mkF m 0 #[rv x0, rv x1, iv x2, iv x3, un] [] := by first | (simp [entryFrame, mkF, argsToLocals, Value.category]; done) | rfl
theorem rm7 (l : Launch) (Z : State) (a0 : Array Value) (hw : HW a0 Z) (ws : List Jvm.Cond) (a1 a2 : Addr) (p3 p4 : Int32) (s1 : Addr) (ln hi ar : Int32) (cs : List Int32) (cz : Int32) (fm : Value) (kc : ClassId) (ts : List Int32) (no nl : Nat) (h0 : Heap) (n0 : Nat) (Z0 : n0 ≤ h0.size) (E_a1 : exa1 Z h0 a1) (Fl_a1 : fld2 Z h0 a1 (.int ln)) (Fb_a1 : fld4 Z h0 a1 (.ref s1)) (Fh_a1 : fld5 Z h0 a1 (.int hi)) (Fa_a1 : fld3 Z h0 a1 (.int ar)) (E_s1 : exa0 Z h0 s1) (SS_s1 : own_S Z h0 s1 cs) (sC : sta4 Z h0 (.int cz)) (sF : sta3 Z h0 fm) (sA : sta0 Z h0 (.int 1)) (sH : sta1 Z h0 (.int 0)) (sL : sta2 Z h0 (.int 8)) (V_a2 : Arv Z h0 a2 kc .char (4 : Int32) (ts.map Value.int) (.int 0)) (ge_a1 : n0 ≤ a1) (hCS : ¬ (cz = (0 : Int32))) (hFM : fm.isRef = true) (hk : cs.length ≤ 2) (hp3 : p3 = Int32.ofNat no) (hp4 : p4 = Int32.ofNat nl) (hon : no + nl ≤ 4) (hlt : ts.length = 4) (hts : ∀ c ∈ ts, ¬ c < 0 ∧ ¬ (65535 : Int32) < c) :
    MF l Z h0 mn24 kb18 5 none ws ({ frames := 8, cells := 0, slots := 0, locals := 114 } : Room) #[(.ref a1), (.ref a2), (.int p3), (.int p4)] (Qrm7 Z a1 a2 p3 p4 s1 ln hi ar cs cz fm kc ts no nl h0 n0) := by
  refine own_go "com/example/pourcode/pourcode/input/LineCounter" rfl #[rv a1, rv a2, iv p3, iv p4, un] (fun m => ef_7 m a1 a2 p3 p4) (plainFor_of_name pn_5) ?_
  intro p e s m below meth c s₁ S0 Bd hx hby hml hown hZ X0 e0 pre0
  have N0 := Fr.nil n0
  subst hp3 hp4
  obtain rfl | rfl | rfl | rfl | rfl : nl = 0 ∨ nl = 1 ∨ nl = 2 ∨ nl = 3 ∨ nl = 4 := by omega
  · skip
    have pre1 : PQ p e below m S0 s₁ 0 #[rv a1, rv a2, iv (Int32.ofNat no), iv 0, un] [] := fun t kt => pre0 t ((show Steps p.tables e below _ t from kt))
    have hf2 : ¬ ((Int32.ofNat no) < ((Int32.ofNat no) + (0 : Int32))) := by
      have q : ∀ k : Fin 5, ¬ ((Int32.ofNat k.val) < ((Int32.ofNat k.val) + (0 : Int32))) := by decide +kernel
      exact q ⟨no, by omega⟩
    have pre3 : PQ p e below m S0 s₁ 25 #[rv a1, rv a2, iv (Int32.ofNat no), iv 0, iv (Int32.ofNat no)] [] := by
      intro t kt
      refine pre1 t ?_
      refine ow_iloadN X0.here hx hby d7_0 rfl ?_
      refine ow_istore X0.here hx hby d7_1 (l' := #[rv a1, rv a2, iv (Int32.ofNat no), iv 0, iv (Int32.ofNat no)]) rfl ?_
      refine ow_iload X0.here hx hby d7_3 rfl ?_
      refine ow_iloadN X0.here hx hby d7_5 rfl ?_
      refine ow_iloadN X0.here hx hby d7_6 rfl ?_
      refine ow_iadd X0.here hx hby d7_7 ?_
      refine ow_icmpYes X0.here hx hby d7_8 (flt hf2).2.1 (pc' := 25) (by decide) (by decide) ?_
      exact kt
    obtain ⟨fs, hr, hu, hd, hW, hme⟩ := X0.leave (v := none) (fun _ => rfl)
    refine ⟨_, _, pre3 _ ?_, hu, hd, _, _, rfl, ?_, ⟨_, rfl⟩, hW, hme.mono (by decide) (by decide)⟩
    · show SQ p e below m s₁ 25 #[rv a1, rv a2, iv (Int32.ofNat no), iv 0, iv (Int32.ofNat no)] [] _
      exact X0.returnOut hx Bd.returns (hb hby d7_25) hr
    · show Qrm7 Z a1 a2 (Int32.ofNat no) (Int32.ofNat 0) s1 ln hi ar cs cz fm kc ts no 0 h0 n0 _ s₁.heap _
      rw [e0]
      exact ⟨rfl, N0, (Keep.refl h0 [a1]), E_a1, Fl_a1, Fb_a1, Fh_a1, Fa_a1⟩
  · skip
    have pre4 : PQ p e below m S0 s₁ 0 #[rv a1, rv a2, iv (Int32.ofNat no), iv 1, un] [] := fun t kt => pre0 t ((show Steps p.tables e below _ t from kt))
    have hf5 : ((Int32.ofNat no) < ((Int32.ofNat no) + (1 : Int32))) := by
      have q : ∀ k : Fin 5, ((Int32.ofNat k.val) < ((Int32.ofNat k.val) + (1 : Int32))) := by decide +kernel
      exact q ⟨no, by omega⟩
    have B7 : ¬ (Int32.ofNat no) < (0 : Int32) ∧ (Int32.ofNat no) < (4 : Int32) ∧ (Int32.ofNat no).toNatClampNeg = no + 0 := by
      have q : ∀ k : Fin 4, ¬ (Int32.ofNat k.val) < (0 : Int32) ∧ (Int32.ofNat k.val) < (4 : Int32) ∧ (Int32.ofNat k.val).toNatClampNeg = k.val + 0 := by decide +kernel
      exact q ⟨no, by omega⟩
    have pre8 : PQ p e below m S0 s₁ 16 #[rv a1, rv a2, iv (Int32.ofNat no), iv 1, iv (Int32.ofNat no)] [(.int (ts.getD (no + 0) 0)), (.ref a1)] := by
      intro t kt
      refine pre4 t ?_
      refine ow_iloadN X0.here hx hby d7_0 rfl ?_
      refine ow_istore X0.here hx hby d7_1 (l' := #[rv a1, rv a2, iv (Int32.ofNat no), iv 1, iv (Int32.ofNat no)]) rfl ?_
      refine ow_iload X0.here hx hby d7_3 rfl ?_
      refine ow_iloadN X0.here hx hby d7_5 rfl ?_
      refine ow_iloadN X0.here hx hby d7_6 rfl ?_
      refine ow_iadd X0.here hx hby d7_7 ?_
      refine ow_icmpNo X0.here hx hby d7_8 (tlt hf5).2.1 ?_
      refine ow_aloadN X0.here hx hby d7_11 rfl rfl ?_
      refine ow_aloadN X0.here hx hby d7_12 rfl rfl ?_
      refine ow_iload X0.here hx hby d7_13 rfl ?_
      obtain ⟨cl6, Ar6, -, S6, M6, H6, -⟩ := (id V_a2)
      have hin6 := inb_of (j := (Int32.ofNat no)) S6 ⟨B7.1, B7.2.1⟩
      refine X0.caload hx (j := (Int32.ofNat no)) (v := (.int (ts.getD (no + 0) 0))) (by rw [e0]; exact Ar6.1) (State.isArrayOf_alike hZ.alike Ar6.2.1) Ar6.2.2 hin6 (H6.at hin6 (own_tv B7.2.2 (by omega))) (g := (mkF m 15 #[rv a1, rv a2, iv (Int32.ofNat no), iv 1, iv (Int32.ofNat no)] [(.int (Int32.ofNat no)), (.ref a2), (.ref a1)])) rfl rfl (hb hby d7_15) _ ?_
      exact kt
    obtain ⟨cq9, q9, q9'⟩ := E_a1.cell
    obtain ⟨_, _, ⟨T9, L9, k9, n9⟩, -, X9, ⟨Lc9, hQ9, l9, y9, z9⟩, st9⟩ := X0.privateBack hx (y := mn7) hown (mw hZ hw 99 rfl) (mw hZ hw 100 rfl) (own_sel (mw hZ hw 18 rfl) (Cond.privateMethod_at (mvP hZ (wi hw 101 rfl) (args := #[]))) (mw hZ hw 100 rfl) (by decide)) (Cond.privateMethod_at (mvP hZ (wi hw 101 rfl) (args := #[]))) (mw hZ hw 102 rfl) (by decide) (backOf (W := 0) (rm20 l Z a0 hw [] a1 (ts.getD (no + 0) 0) s1 ln hi ar cs cz fm h0 n0 Z0 E_a1 Fl_a1 Fb_a1 Fh_a1 Fa_a1 E_s1 SS_s1 sC sF sA sH sL ge_a1 (hCS) (hFM) (hk) (own_tb hts _)) hZ (wi hw 102 rfl) (wi hw 19 rfl) (by decide) (by decide)) (g := (mkF m 16 #[rv a1, rv a2, iv (Int32.ofNat no), iv 1, iv (Int32.ofNat no)] [(.int (ts.getD (no + 0) 0)), (.ref a1)])) rfl (by rw [hml]; rfl) (Steps.refl _) (a := a1) (by rw [e0]; exact q9) q9' (argsL := [(.int (ts.getD (no + 0) 0))]) (rest := []) (lenOf pd_25 rfl) rfl (by show 2 * 0 + _ ≤ _; exact Nat.le_of_eq rfl) (hb hby d7_16) (fun _ _ => ⟨rfl, e0, (Nat.zero_le _), (Nat.zero_le _)⟩)
    dsimp only [Pt.U, Pt.locs, Pt.cells, Pt.slots] at X9 l9 y9 z9 st9 hQ9
    subst l9 y9 z9
    obtain ⟨rfl, N9q, KC9, P9_0, P9_1, P9_2, P9_3, P9_4⟩ := hQ9
    have N9 := Fr.app N0 N9q
    have Z9 : n0 ≤ T9.heap.size := Nat.le_trans Z0 KC9.1
    have K9 := (Keep.refl h0 [a1]).trans KC9 (allS (Or.inl (List.mem_of_getElem? (i := 0) rfl)) all0)
    have E_a1_10 := E_a1.keep KC9
    have E_s1_15 := E_s1.keep KC9
    have SS_s1_16 := own_Skeep SS_s1 KC9 E_a1 (wi hw 18 rfl) (by decide)
    have sC_17 := own_stak sC KC9 (nsS E_a1.nostat ns0)
    have sF_18 := own_stak sF KC9 (nsS E_a1.nostat ns0)
    have sA_19 := own_stak sA KC9 (nsS E_a1.nostat ns0)
    have sH_20 := own_stak sH KC9 (nsS E_a1.nostat ns0)
    have sL_21 := own_stak sL KC9 (nsS E_a1.nostat ns0)
    have V_a2_22 := V_a2.keep KC9 (ninS (Ne.symm (own_neArv E_a1 (wi hw 18 rfl) V_a2)) nin0)
    have E_a1_9 : exa1 Z T9.heap a1 := P9_0
    have Fl_a1_9 : fld2 Z T9.heap a1 (.int (own_sl cs hi ln ar (ts.getD (no + 0) 0))) := P9_1
    have Fb_a1_9 : fld4 Z T9.heap a1 (.ref s1) := P9_2
    have Fh_a1_9 : fld5 Z T9.heap a1 (.int hi) := P9_3
    have Fa_a1_9 : fld3 Z T9.heap a1 (.int (own_sa cs hi ar (ts.getD (no + 0) 0))) := P9_4
    have pre9 : PQ p e below m S0 T9 19 #[rv a1, rv a2, iv (Int32.ofNat no), iv 1, iv (Int32.ofNat no)] [] := fun t kt => pre8 t (st9.trans kt)
    have hf23 : ¬ (((Int32.ofNat no) + (1 : Int32)) < ((Int32.ofNat no) + (1 : Int32))) := by
      have q : ∀ k : Fin 5, ¬ (((Int32.ofNat k.val) + (1 : Int32)) < ((Int32.ofNat k.val) + (1 : Int32))) := by decide +kernel
      exact q ⟨no, by omega⟩
    have pre24 : PQ p e below m S0 T9 25 #[rv a1, rv a2, iv (Int32.ofNat no), iv 1, iv ((Int32.ofNat no) + (1 : Int32))] [] := by
      intro t kt
      refine pre9 t ?_
      refine ow_iinc X9.here hx hby d7_19 rfl (l' := #[rv a1, rv a2, iv (Int32.ofNat no), iv 1, iv ((Int32.ofNat no) + (1 : Int32))]) rfl ?_
      refine ow_goto X9.here hx hby d7_22 (pc' := 3) (by decide) (by decide) ?_
      refine ow_iload X9.here hx hby d7_3 rfl ?_
      refine ow_iloadN X9.here hx hby d7_5 rfl ?_
      refine ow_iloadN X9.here hx hby d7_6 rfl ?_
      refine ow_iadd X9.here hx hby d7_7 ?_
      refine ow_icmpYes X9.here hx hby d7_8 (flt hf23).2.1 (pc' := 25) (by decide) (by decide) ?_
      exact kt
    obtain ⟨fs, hr, hu, hd, hW, hme⟩ := X9.leave (v := none) (fun _ => rfl)
    refine ⟨_, _, pre24 _ ?_, hu, hd, _, _, rfl, ?_, ⟨_, rfl⟩, hW, hme.mono (by decide) (by decide)⟩
    · show SQ p e below m T9 25 #[rv a1, rv a2, iv (Int32.ofNat no), iv 1, iv ((Int32.ofNat no) + (1 : Int32))] [] _
      exact X9.returnOut hx Bd.returns (hb hby d7_25) hr
    · show Qrm7 Z a1 a2 (Int32.ofNat no) (Int32.ofNat 1) s1 ln hi ar cs cz fm kc ts no 1 h0 n0 _ T9.heap _
      exact ⟨rfl, N9, K9, E_a1_9, Fl_a1_9, Fb_a1_9, Fh_a1_9, Fa_a1_9⟩
  · skip
    have pre25 : PQ p e below m S0 s₁ 0 #[rv a1, rv a2, iv (Int32.ofNat no), iv 2, un] [] := fun t kt => pre0 t ((show Steps p.tables e below _ t from kt))
    have hf26 : ((Int32.ofNat no) < ((Int32.ofNat no) + (2 : Int32))) := by
      have q : ∀ k : Fin 5, ((Int32.ofNat k.val) < ((Int32.ofNat k.val) + (2 : Int32))) := by decide +kernel
      exact q ⟨no, by omega⟩
    have B28 : ¬ (Int32.ofNat no) < (0 : Int32) ∧ (Int32.ofNat no) < (4 : Int32) ∧ (Int32.ofNat no).toNatClampNeg = no + 0 := by
      have q : ∀ k : Fin 4, ¬ (Int32.ofNat k.val) < (0 : Int32) ∧ (Int32.ofNat k.val) < (4 : Int32) ∧ (Int32.ofNat k.val).toNatClampNeg = k.val + 0 := by decide +kernel
      exact q ⟨no, by omega⟩
    have pre29 : PQ p e below m S0 s₁ 16 #[rv a1, rv a2, iv (Int32.ofNat no), iv 2, iv (Int32.ofNat no)] [(.int (ts.getD (no + 0) 0)), (.ref a1)] := by
      intro t kt
      refine pre25 t ?_
      refine ow_iloadN X0.here hx hby d7_0 rfl ?_
      refine ow_istore X0.here hx hby d7_1 (l' := #[rv a1, rv a2, iv (Int32.ofNat no), iv 2, iv (Int32.ofNat no)]) rfl ?_
      refine ow_iload X0.here hx hby d7_3 rfl ?_
      refine ow_iloadN X0.here hx hby d7_5 rfl ?_
      refine ow_iloadN X0.here hx hby d7_6 rfl ?_
      refine ow_iadd X0.here hx hby d7_7 ?_
      refine ow_icmpNo X0.here hx hby d7_8 (tlt hf26).2.1 ?_
      refine ow_aloadN X0.here hx hby d7_11 rfl rfl ?_
      refine ow_aloadN X0.here hx hby d7_12 rfl rfl ?_
      refine ow_iload X0.here hx hby d7_13 rfl ?_
      obtain ⟨cl27, Ar27, -, S27, M27, H27, -⟩ := (id V_a2)
      have hin27 := inb_of (j := (Int32.ofNat no)) S27 ⟨B28.1, B28.2.1⟩
      refine X0.caload hx (j := (Int32.ofNat no)) (v := (.int (ts.getD (no + 0) 0))) (by rw [e0]; exact Ar27.1) (State.isArrayOf_alike hZ.alike Ar27.2.1) Ar27.2.2 hin27 (H27.at hin27 (own_tv B28.2.2 (by omega))) (g := (mkF m 15 #[rv a1, rv a2, iv (Int32.ofNat no), iv 2, iv (Int32.ofNat no)] [(.int (Int32.ofNat no)), (.ref a2), (.ref a1)])) rfl rfl (hb hby d7_15) _ ?_
      exact kt
    obtain ⟨cq30, q30, q30'⟩ := E_a1.cell
    obtain ⟨_, _, ⟨T30, L30, k30, n30⟩, -, X30, ⟨Lc30, hQ30, l30, y30, z30⟩, st30⟩ := X0.privateBack hx (y := mn7) hown (mw hZ hw 99 rfl) (mw hZ hw 100 rfl) (own_sel (mw hZ hw 18 rfl) (Cond.privateMethod_at (mvP hZ (wi hw 101 rfl) (args := #[]))) (mw hZ hw 100 rfl) (by decide)) (Cond.privateMethod_at (mvP hZ (wi hw 101 rfl) (args := #[]))) (mw hZ hw 102 rfl) (by decide) (backOf (W := 0) (rm20 l Z a0 hw [] a1 (ts.getD (no + 0) 0) s1 ln hi ar cs cz fm h0 n0 Z0 E_a1 Fl_a1 Fb_a1 Fh_a1 Fa_a1 E_s1 SS_s1 sC sF sA sH sL ge_a1 (hCS) (hFM) (hk) (own_tb hts _)) hZ (wi hw 102 rfl) (wi hw 19 rfl) (by decide) (by decide)) (g := (mkF m 16 #[rv a1, rv a2, iv (Int32.ofNat no), iv 2, iv (Int32.ofNat no)] [(.int (ts.getD (no + 0) 0)), (.ref a1)])) rfl (by rw [hml]; rfl) (Steps.refl _) (a := a1) (by rw [e0]; exact q30) q30' (argsL := [(.int (ts.getD (no + 0) 0))]) (rest := []) (lenOf pd_25 rfl) rfl (by show 2 * 0 + _ ≤ _; exact Nat.le_of_eq rfl) (hb hby d7_16) (fun _ _ => ⟨rfl, e0, (Nat.zero_le _), (Nat.zero_le _)⟩)
    dsimp only [Pt.U, Pt.locs, Pt.cells, Pt.slots] at X30 l30 y30 z30 st30 hQ30
    subst l30 y30 z30
    obtain ⟨rfl, N30q, KC30, P30_0, P30_1, P30_2, P30_3, P30_4⟩ := hQ30
    have N30 := Fr.app N0 N30q
    have Z30 : n0 ≤ T30.heap.size := Nat.le_trans Z0 KC30.1
    have K30 := (Keep.refl h0 [a1]).trans KC30 (allS (Or.inl (List.mem_of_getElem? (i := 0) rfl)) all0)
    have E_a1_31 := E_a1.keep KC30
    have E_s1_36 := E_s1.keep KC30
    have SS_s1_37 := own_Skeep SS_s1 KC30 E_a1 (wi hw 18 rfl) (by decide)
    have sC_38 := own_stak sC KC30 (nsS E_a1.nostat ns0)
    have sF_39 := own_stak sF KC30 (nsS E_a1.nostat ns0)
    have sA_40 := own_stak sA KC30 (nsS E_a1.nostat ns0)
    have sH_41 := own_stak sH KC30 (nsS E_a1.nostat ns0)
    have sL_42 := own_stak sL KC30 (nsS E_a1.nostat ns0)
    have V_a2_43 := V_a2.keep KC30 (ninS (Ne.symm (own_neArv E_a1 (wi hw 18 rfl) V_a2)) nin0)
    have E_a1_30 : exa1 Z T30.heap a1 := P30_0
    have Fl_a1_30 : fld2 Z T30.heap a1 (.int (own_sl cs hi ln ar (ts.getD (no + 0) 0))) := P30_1
    have Fb_a1_30 : fld4 Z T30.heap a1 (.ref s1) := P30_2
    have Fh_a1_30 : fld5 Z T30.heap a1 (.int hi) := P30_3
    have Fa_a1_30 : fld3 Z T30.heap a1 (.int (own_sa cs hi ar (ts.getD (no + 0) 0))) := P30_4
    have pre30 : PQ p e below m S0 T30 19 #[rv a1, rv a2, iv (Int32.ofNat no), iv 2, iv (Int32.ofNat no)] [] := fun t kt => pre29 t (st30.trans kt)
    have hf44 : (((Int32.ofNat no) + (1 : Int32)) < ((Int32.ofNat no) + (2 : Int32))) := by
      have q : ∀ k : Fin 5, (((Int32.ofNat k.val) + (1 : Int32)) < ((Int32.ofNat k.val) + (2 : Int32))) := by decide +kernel
      exact q ⟨no, by omega⟩
    have B46 : ¬ ((Int32.ofNat no) + (1 : Int32)) < (0 : Int32) ∧ ((Int32.ofNat no) + (1 : Int32)) < (4 : Int32) ∧ ((Int32.ofNat no) + (1 : Int32)).toNatClampNeg = no + 1 := by
      have q : ∀ k : Fin 3, ¬ ((Int32.ofNat k.val) + (1 : Int32)) < (0 : Int32) ∧ ((Int32.ofNat k.val) + (1 : Int32)) < (4 : Int32) ∧ ((Int32.ofNat k.val) + (1 : Int32)).toNatClampNeg = k.val + 1 := by decide +kernel
      exact q ⟨no, by omega⟩
    have pre47 : PQ p e below m S0 T30 16 #[rv a1, rv a2, iv (Int32.ofNat no), iv 2, iv ((Int32.ofNat no) + (1 : Int32))] [(.int (ts.getD (no + 1) 0)), (.ref a1)] := by
      intro t kt
      refine pre30 t ?_
      refine ow_iinc X30.here hx hby d7_19 rfl (l' := #[rv a1, rv a2, iv (Int32.ofNat no), iv 2, iv ((Int32.ofNat no) + (1 : Int32))]) rfl ?_
      refine ow_goto X30.here hx hby d7_22 (pc' := 3) (by decide) (by decide) ?_
      refine ow_iload X30.here hx hby d7_3 rfl ?_
      refine ow_iloadN X30.here hx hby d7_5 rfl ?_
      refine ow_iloadN X30.here hx hby d7_6 rfl ?_
      refine ow_iadd X30.here hx hby d7_7 ?_
      refine ow_icmpNo X30.here hx hby d7_8 (tlt hf44).2.1 ?_
      refine ow_aloadN X30.here hx hby d7_11 rfl rfl ?_
      refine ow_aloadN X30.here hx hby d7_12 rfl rfl ?_
      refine ow_iload X30.here hx hby d7_13 rfl ?_
      obtain ⟨cl45, Ar45, -, S45, M45, H45, -⟩ := (id V_a2_43)
      have hin45 := inb_of (j := ((Int32.ofNat no) + (1 : Int32))) S45 ⟨B46.1, B46.2.1⟩
      refine X30.caload hx (j := ((Int32.ofNat no) + (1 : Int32))) (v := (.int (ts.getD (no + 1) 0))) Ar45.1 (State.isArrayOf_alike hZ.alike Ar45.2.1) Ar45.2.2 hin45 (H45.at hin45 (own_tv B46.2.2 (by omega))) (g := (mkF m 15 #[rv a1, rv a2, iv (Int32.ofNat no), iv 2, iv ((Int32.ofNat no) + (1 : Int32))] [(.int ((Int32.ofNat no) + (1 : Int32))), (.ref a2), (.ref a1)])) rfl rfl (hb hby d7_15) _ ?_
      exact kt
    obtain ⟨cq48, q48, q48'⟩ := E_a1_30.cell
    obtain ⟨_, _, ⟨T48, L48, k48, n48⟩, -, X48, ⟨Lc48, hQ48, l48, y48, z48⟩, st48⟩ := X30.privateBack hx (y := mn7) hown (mw hZ hw 99 rfl) (mw hZ hw 100 rfl) (own_sel (mw hZ hw 18 rfl) (Cond.privateMethod_at (mvP hZ (wi hw 101 rfl) (args := #[]))) (mw hZ hw 100 rfl) (by decide)) (Cond.privateMethod_at (mvP hZ (wi hw 101 rfl) (args := #[]))) (mw hZ hw 102 rfl) (by decide) (backOf (W := 0) (rm20 l Z a0 hw [] a1 (ts.getD (no + 1) 0) s1 (own_sl cs hi ln ar (ts.getD (no + 0) 0)) hi (own_sa cs hi ar (ts.getD (no + 0) 0)) cs cz fm T30.heap n0 Z30 E_a1_30 Fl_a1_30 Fb_a1_30 Fh_a1_30 Fa_a1_30 E_s1_36 SS_s1_37 sC_38 sF_39 sA_40 sH_41 sL_42 ge_a1 (hCS) (hFM) (hk) (own_tb hts _)) hZ (wi hw 102 rfl) (wi hw 19 rfl) (by decide) (by decide)) (g := (mkF m 16 #[rv a1, rv a2, iv (Int32.ofNat no), iv 2, iv ((Int32.ofNat no) + (1 : Int32))] [(.int (ts.getD (no + 1) 0)), (.ref a1)])) rfl (by rw [hml]; rfl) (Steps.refl _) (a := a1) q48 q48' (argsL := [(.int (ts.getD (no + 1) 0))]) (rest := []) (lenOf pd_25 rfl) rfl (by show 2 * 0 + _ ≤ _; exact Nat.le_of_eq rfl) (hb hby d7_16) (fun _ _ => ⟨rfl, rfl, (Nat.zero_le _), (Nat.zero_le _)⟩)
    dsimp only [Pt.U, Pt.locs, Pt.cells, Pt.slots] at X48 l48 y48 z48 st48 hQ48
    subst l48 y48 z48
    obtain ⟨rfl, N48q, KC48, P48_0, P48_1, P48_2, P48_3, P48_4⟩ := hQ48
    have N48 := Fr.app N30 N48q
    have Z48 : n0 ≤ T48.heap.size := Nat.le_trans Z30 KC48.1
    have K48 := K30.trans KC48 (allS (Or.inl (List.mem_of_getElem? (i := 0) rfl)) all0)
    have E_a1_30_49 := E_a1_30.keep KC48
    have E_s1_50 := E_s1_36.keep KC48
    have SS_s1_51 := own_Skeep SS_s1_37 KC48 E_a1_30 (wi hw 18 rfl) (by decide)
    have sC_52 := own_stak sC_38 KC48 (nsS E_a1_30.nostat ns0)
    have sF_53 := own_stak sF_39 KC48 (nsS E_a1_30.nostat ns0)
    have sA_54 := own_stak sA_40 KC48 (nsS E_a1_30.nostat ns0)
    have sH_55 := own_stak sH_41 KC48 (nsS E_a1_30.nostat ns0)
    have sL_56 := own_stak sL_42 KC48 (nsS E_a1_30.nostat ns0)
    have V_a2_57 := V_a2_43.keep KC48 (ninS (Ne.symm (own_neArv E_a1_30 (wi hw 18 rfl) V_a2_43)) nin0)
    have E_a1_48 : exa1 Z T48.heap a1 := P48_0
    have Fl_a1_48 : fld2 Z T48.heap a1 (.int (own_sl cs hi (own_sl cs hi ln ar (ts.getD (no + 0) 0)) (own_sa cs hi ar (ts.getD (no + 0) 0)) (ts.getD (no + 1) 0))) := P48_1
    have Fb_a1_48 : fld4 Z T48.heap a1 (.ref s1) := P48_2
    have Fh_a1_48 : fld5 Z T48.heap a1 (.int hi) := P48_3
    have Fa_a1_48 : fld3 Z T48.heap a1 (.int (own_sa cs hi (own_sa cs hi ar (ts.getD (no + 0) 0)) (ts.getD (no + 1) 0))) := P48_4
    have pre48 : PQ p e below m S0 T48 19 #[rv a1, rv a2, iv (Int32.ofNat no), iv 2, iv ((Int32.ofNat no) + (1 : Int32))] [] := fun t kt => pre47 t (st48.trans kt)
    have hf62 : ¬ ((((Int32.ofNat no) + (1 : Int32)) + (1 : Int32)) < ((Int32.ofNat no) + (2 : Int32))) := by
      have q : ∀ k : Fin 5, ¬ ((((Int32.ofNat k.val) + (1 : Int32)) + (1 : Int32)) < ((Int32.ofNat k.val) + (2 : Int32))) := by decide +kernel
      exact q ⟨no, by omega⟩
    have pre63 : PQ p e below m S0 T48 25 #[rv a1, rv a2, iv (Int32.ofNat no), iv 2, iv (((Int32.ofNat no) + (1 : Int32)) + (1 : Int32))] [] := by
      intro t kt
      refine pre48 t ?_
      refine ow_iinc X48.here hx hby d7_19 rfl (l' := #[rv a1, rv a2, iv (Int32.ofNat no), iv 2, iv (((Int32.ofNat no) + (1 : Int32)) + (1 : Int32))]) rfl ?_
      refine ow_goto X48.here hx hby d7_22 (pc' := 3) (by decide) (by decide) ?_
      refine ow_iload X48.here hx hby d7_3 rfl ?_
      refine ow_iloadN X48.here hx hby d7_5 rfl ?_
      refine ow_iloadN X48.here hx hby d7_6 rfl ?_
      refine ow_iadd X48.here hx hby d7_7 ?_
      refine ow_icmpYes X48.here hx hby d7_8 (flt hf62).2.1 (pc' := 25) (by decide) (by decide) ?_
      exact kt
    obtain ⟨fs, hr, hu, hd, hW, hme⟩ := X48.leave (v := none) (fun _ => rfl)
    refine ⟨_, _, pre63 _ ?_, hu, hd, _, _, rfl, ?_, ⟨_, rfl⟩, hW, hme.mono (by decide) (by decide)⟩
    · show SQ p e below m T48 25 #[rv a1, rv a2, iv (Int32.ofNat no), iv 2, iv (((Int32.ofNat no) + (1 : Int32)) + (1 : Int32))] [] _
      exact X48.returnOut hx Bd.returns (hb hby d7_25) hr
    · show Qrm7 Z a1 a2 (Int32.ofNat no) (Int32.ofNat 2) s1 ln hi ar cs cz fm kc ts no 2 h0 n0 _ T48.heap _
      exact ⟨rfl, N48, K48, E_a1_48, Fl_a1_48, Fb_a1_48, Fh_a1_48, Fa_a1_48⟩
  · skip
    have pre64 : PQ p e below m S0 s₁ 0 #[rv a1, rv a2, iv (Int32.ofNat no), iv 3, un] [] := fun t kt => pre0 t ((show Steps p.tables e below _ t from kt))
    have hf65 : ((Int32.ofNat no) < ((Int32.ofNat no) + (3 : Int32))) := by
      have q : ∀ k : Fin 5, ((Int32.ofNat k.val) < ((Int32.ofNat k.val) + (3 : Int32))) := by decide +kernel
      exact q ⟨no, by omega⟩
    have B67 : ¬ (Int32.ofNat no) < (0 : Int32) ∧ (Int32.ofNat no) < (4 : Int32) ∧ (Int32.ofNat no).toNatClampNeg = no + 0 := by
      have q : ∀ k : Fin 4, ¬ (Int32.ofNat k.val) < (0 : Int32) ∧ (Int32.ofNat k.val) < (4 : Int32) ∧ (Int32.ofNat k.val).toNatClampNeg = k.val + 0 := by decide +kernel
      exact q ⟨no, by omega⟩
    have pre68 : PQ p e below m S0 s₁ 16 #[rv a1, rv a2, iv (Int32.ofNat no), iv 3, iv (Int32.ofNat no)] [(.int (ts.getD (no + 0) 0)), (.ref a1)] := by
      intro t kt
      refine pre64 t ?_
      refine ow_iloadN X0.here hx hby d7_0 rfl ?_
      refine ow_istore X0.here hx hby d7_1 (l' := #[rv a1, rv a2, iv (Int32.ofNat no), iv 3, iv (Int32.ofNat no)]) rfl ?_
      refine ow_iload X0.here hx hby d7_3 rfl ?_
      refine ow_iloadN X0.here hx hby d7_5 rfl ?_
      refine ow_iloadN X0.here hx hby d7_6 rfl ?_
      refine ow_iadd X0.here hx hby d7_7 ?_
      refine ow_icmpNo X0.here hx hby d7_8 (tlt hf65).2.1 ?_
      refine ow_aloadN X0.here hx hby d7_11 rfl rfl ?_
      refine ow_aloadN X0.here hx hby d7_12 rfl rfl ?_
      refine ow_iload X0.here hx hby d7_13 rfl ?_
      obtain ⟨cl66, Ar66, -, S66, M66, H66, -⟩ := (id V_a2)
      have hin66 := inb_of (j := (Int32.ofNat no)) S66 ⟨B67.1, B67.2.1⟩
      refine X0.caload hx (j := (Int32.ofNat no)) (v := (.int (ts.getD (no + 0) 0))) (by rw [e0]; exact Ar66.1) (State.isArrayOf_alike hZ.alike Ar66.2.1) Ar66.2.2 hin66 (H66.at hin66 (own_tv B67.2.2 (by omega))) (g := (mkF m 15 #[rv a1, rv a2, iv (Int32.ofNat no), iv 3, iv (Int32.ofNat no)] [(.int (Int32.ofNat no)), (.ref a2), (.ref a1)])) rfl rfl (hb hby d7_15) _ ?_
      exact kt
    obtain ⟨cq69, q69, q69'⟩ := E_a1.cell
    obtain ⟨_, _, ⟨T69, L69, k69, n69⟩, -, X69, ⟨Lc69, hQ69, l69, y69, z69⟩, st69⟩ := X0.privateBack hx (y := mn7) hown (mw hZ hw 99 rfl) (mw hZ hw 100 rfl) (own_sel (mw hZ hw 18 rfl) (Cond.privateMethod_at (mvP hZ (wi hw 101 rfl) (args := #[]))) (mw hZ hw 100 rfl) (by decide)) (Cond.privateMethod_at (mvP hZ (wi hw 101 rfl) (args := #[]))) (mw hZ hw 102 rfl) (by decide) (backOf (W := 0) (rm20 l Z a0 hw [] a1 (ts.getD (no + 0) 0) s1 ln hi ar cs cz fm h0 n0 Z0 E_a1 Fl_a1 Fb_a1 Fh_a1 Fa_a1 E_s1 SS_s1 sC sF sA sH sL ge_a1 (hCS) (hFM) (hk) (own_tb hts _)) hZ (wi hw 102 rfl) (wi hw 19 rfl) (by decide) (by decide)) (g := (mkF m 16 #[rv a1, rv a2, iv (Int32.ofNat no), iv 3, iv (Int32.ofNat no)] [(.int (ts.getD (no + 0) 0)), (.ref a1)])) rfl (by rw [hml]; rfl) (Steps.refl _) (a := a1) (by rw [e0]; exact q69) q69' (argsL := [(.int (ts.getD (no + 0) 0))]) (rest := []) (lenOf pd_25 rfl) rfl (by show 2 * 0 + _ ≤ _; exact Nat.le_of_eq rfl) (hb hby d7_16) (fun _ _ => ⟨rfl, e0, (Nat.zero_le _), (Nat.zero_le _)⟩)
    dsimp only [Pt.U, Pt.locs, Pt.cells, Pt.slots] at X69 l69 y69 z69 st69 hQ69
    subst l69 y69 z69
    obtain ⟨rfl, N69q, KC69, P69_0, P69_1, P69_2, P69_3, P69_4⟩ := hQ69
    have N69 := Fr.app N0 N69q
    have Z69 : n0 ≤ T69.heap.size := Nat.le_trans Z0 KC69.1
    have K69 := (Keep.refl h0 [a1]).trans KC69 (allS (Or.inl (List.mem_of_getElem? (i := 0) rfl)) all0)
    have E_a1_70 := E_a1.keep KC69
    have E_s1_75 := E_s1.keep KC69
    have SS_s1_76 := own_Skeep SS_s1 KC69 E_a1 (wi hw 18 rfl) (by decide)
    have sC_77 := own_stak sC KC69 (nsS E_a1.nostat ns0)
    have sF_78 := own_stak sF KC69 (nsS E_a1.nostat ns0)
    have sA_79 := own_stak sA KC69 (nsS E_a1.nostat ns0)
    have sH_80 := own_stak sH KC69 (nsS E_a1.nostat ns0)
    have sL_81 := own_stak sL KC69 (nsS E_a1.nostat ns0)
    have V_a2_82 := V_a2.keep KC69 (ninS (Ne.symm (own_neArv E_a1 (wi hw 18 rfl) V_a2)) nin0)
    have E_a1_69 : exa1 Z T69.heap a1 := P69_0
    have Fl_a1_69 : fld2 Z T69.heap a1 (.int (own_sl cs hi ln ar (ts.getD (no + 0) 0))) := P69_1
    have Fb_a1_69 : fld4 Z T69.heap a1 (.ref s1) := P69_2
    have Fh_a1_69 : fld5 Z T69.heap a1 (.int hi) := P69_3
    have Fa_a1_69 : fld3 Z T69.heap a1 (.int (own_sa cs hi ar (ts.getD (no + 0) 0))) := P69_4
    have pre69 : PQ p e below m S0 T69 19 #[rv a1, rv a2, iv (Int32.ofNat no), iv 3, iv (Int32.ofNat no)] [] := fun t kt => pre68 t (st69.trans kt)
    have hf83 : (((Int32.ofNat no) + (1 : Int32)) < ((Int32.ofNat no) + (3 : Int32))) := by
      have q : ∀ k : Fin 5, (((Int32.ofNat k.val) + (1 : Int32)) < ((Int32.ofNat k.val) + (3 : Int32))) := by decide +kernel
      exact q ⟨no, by omega⟩
    have B85 : ¬ ((Int32.ofNat no) + (1 : Int32)) < (0 : Int32) ∧ ((Int32.ofNat no) + (1 : Int32)) < (4 : Int32) ∧ ((Int32.ofNat no) + (1 : Int32)).toNatClampNeg = no + 1 := by
      have q : ∀ k : Fin 3, ¬ ((Int32.ofNat k.val) + (1 : Int32)) < (0 : Int32) ∧ ((Int32.ofNat k.val) + (1 : Int32)) < (4 : Int32) ∧ ((Int32.ofNat k.val) + (1 : Int32)).toNatClampNeg = k.val + 1 := by decide +kernel
      exact q ⟨no, by omega⟩
    have pre86 : PQ p e below m S0 T69 16 #[rv a1, rv a2, iv (Int32.ofNat no), iv 3, iv ((Int32.ofNat no) + (1 : Int32))] [(.int (ts.getD (no + 1) 0)), (.ref a1)] := by
      intro t kt
      refine pre69 t ?_
      refine ow_iinc X69.here hx hby d7_19 rfl (l' := #[rv a1, rv a2, iv (Int32.ofNat no), iv 3, iv ((Int32.ofNat no) + (1 : Int32))]) rfl ?_
      refine ow_goto X69.here hx hby d7_22 (pc' := 3) (by decide) (by decide) ?_
      refine ow_iload X69.here hx hby d7_3 rfl ?_
      refine ow_iloadN X69.here hx hby d7_5 rfl ?_
      refine ow_iloadN X69.here hx hby d7_6 rfl ?_
      refine ow_iadd X69.here hx hby d7_7 ?_
      refine ow_icmpNo X69.here hx hby d7_8 (tlt hf83).2.1 ?_
      refine ow_aloadN X69.here hx hby d7_11 rfl rfl ?_
      refine ow_aloadN X69.here hx hby d7_12 rfl rfl ?_
      refine ow_iload X69.here hx hby d7_13 rfl ?_
      obtain ⟨cl84, Ar84, -, S84, M84, H84, -⟩ := (id V_a2_82)
      have hin84 := inb_of (j := ((Int32.ofNat no) + (1 : Int32))) S84 ⟨B85.1, B85.2.1⟩
      refine X69.caload hx (j := ((Int32.ofNat no) + (1 : Int32))) (v := (.int (ts.getD (no + 1) 0))) Ar84.1 (State.isArrayOf_alike hZ.alike Ar84.2.1) Ar84.2.2 hin84 (H84.at hin84 (own_tv B85.2.2 (by omega))) (g := (mkF m 15 #[rv a1, rv a2, iv (Int32.ofNat no), iv 3, iv ((Int32.ofNat no) + (1 : Int32))] [(.int ((Int32.ofNat no) + (1 : Int32))), (.ref a2), (.ref a1)])) rfl rfl (hb hby d7_15) _ ?_
      exact kt
    obtain ⟨cq87, q87, q87'⟩ := E_a1_69.cell
    obtain ⟨_, _, ⟨T87, L87, k87, n87⟩, -, X87, ⟨Lc87, hQ87, l87, y87, z87⟩, st87⟩ := X69.privateBack hx (y := mn7) hown (mw hZ hw 99 rfl) (mw hZ hw 100 rfl) (own_sel (mw hZ hw 18 rfl) (Cond.privateMethod_at (mvP hZ (wi hw 101 rfl) (args := #[]))) (mw hZ hw 100 rfl) (by decide)) (Cond.privateMethod_at (mvP hZ (wi hw 101 rfl) (args := #[]))) (mw hZ hw 102 rfl) (by decide) (backOf (W := 0) (rm20 l Z a0 hw [] a1 (ts.getD (no + 1) 0) s1 (own_sl cs hi ln ar (ts.getD (no + 0) 0)) hi (own_sa cs hi ar (ts.getD (no + 0) 0)) cs cz fm T69.heap n0 Z69 E_a1_69 Fl_a1_69 Fb_a1_69 Fh_a1_69 Fa_a1_69 E_s1_75 SS_s1_76 sC_77 sF_78 sA_79 sH_80 sL_81 ge_a1 (hCS) (hFM) (hk) (own_tb hts _)) hZ (wi hw 102 rfl) (wi hw 19 rfl) (by decide) (by decide)) (g := (mkF m 16 #[rv a1, rv a2, iv (Int32.ofNat no), iv 3, iv ((Int32.ofNat no) + (1 : Int32))] [(.int (ts.getD (no + 1) 0)), (.ref a1)])) rfl (by rw [hml]; rfl) (Steps.refl _) (a := a1) q87 q87' (argsL := [(.int (ts.getD (no + 1) 0))]) (rest := []) (lenOf pd_25 rfl) rfl (by show 2 * 0 + _ ≤ _; exact Nat.le_of_eq rfl) (hb hby d7_16) (fun _ _ => ⟨rfl, rfl, (Nat.zero_le _), (Nat.zero_le _)⟩)
    dsimp only [Pt.U, Pt.locs, Pt.cells, Pt.slots] at X87 l87 y87 z87 st87 hQ87
    subst l87 y87 z87
    obtain ⟨rfl, N87q, KC87, P87_0, P87_1, P87_2, P87_3, P87_4⟩ := hQ87
    have N87 := Fr.app N69 N87q
    have Z87 : n0 ≤ T87.heap.size := Nat.le_trans Z69 KC87.1
    have K87 := K69.trans KC87 (allS (Or.inl (List.mem_of_getElem? (i := 0) rfl)) all0)
    have E_a1_69_88 := E_a1_69.keep KC87
    have E_s1_89 := E_s1_75.keep KC87
    have SS_s1_90 := own_Skeep SS_s1_76 KC87 E_a1_69 (wi hw 18 rfl) (by decide)
    have sC_91 := own_stak sC_77 KC87 (nsS E_a1_69.nostat ns0)
    have sF_92 := own_stak sF_78 KC87 (nsS E_a1_69.nostat ns0)
    have sA_93 := own_stak sA_79 KC87 (nsS E_a1_69.nostat ns0)
    have sH_94 := own_stak sH_80 KC87 (nsS E_a1_69.nostat ns0)
    have sL_95 := own_stak sL_81 KC87 (nsS E_a1_69.nostat ns0)
    have V_a2_96 := V_a2_82.keep KC87 (ninS (Ne.symm (own_neArv E_a1_69 (wi hw 18 rfl) V_a2_82)) nin0)
    have E_a1_87 : exa1 Z T87.heap a1 := P87_0
    have Fl_a1_87 : fld2 Z T87.heap a1 (.int (own_sl cs hi (own_sl cs hi ln ar (ts.getD (no + 0) 0)) (own_sa cs hi ar (ts.getD (no + 0) 0)) (ts.getD (no + 1) 0))) := P87_1
    have Fb_a1_87 : fld4 Z T87.heap a1 (.ref s1) := P87_2
    have Fh_a1_87 : fld5 Z T87.heap a1 (.int hi) := P87_3
    have Fa_a1_87 : fld3 Z T87.heap a1 (.int (own_sa cs hi (own_sa cs hi ar (ts.getD (no + 0) 0)) (ts.getD (no + 1) 0))) := P87_4
    have pre87 : PQ p e below m S0 T87 19 #[rv a1, rv a2, iv (Int32.ofNat no), iv 3, iv ((Int32.ofNat no) + (1 : Int32))] [] := fun t kt => pre86 t (st87.trans kt)
    have hf101 : ((((Int32.ofNat no) + (1 : Int32)) + (1 : Int32)) < ((Int32.ofNat no) + (3 : Int32))) := by
      have q : ∀ k : Fin 5, ((((Int32.ofNat k.val) + (1 : Int32)) + (1 : Int32)) < ((Int32.ofNat k.val) + (3 : Int32))) := by decide +kernel
      exact q ⟨no, by omega⟩
    have B103 : ¬ (((Int32.ofNat no) + (1 : Int32)) + (1 : Int32)) < (0 : Int32) ∧ (((Int32.ofNat no) + (1 : Int32)) + (1 : Int32)) < (4 : Int32) ∧ (((Int32.ofNat no) + (1 : Int32)) + (1 : Int32)).toNatClampNeg = no + 2 := by
      have q : ∀ k : Fin 2, ¬ (((Int32.ofNat k.val) + (1 : Int32)) + (1 : Int32)) < (0 : Int32) ∧ (((Int32.ofNat k.val) + (1 : Int32)) + (1 : Int32)) < (4 : Int32) ∧ (((Int32.ofNat k.val) + (1 : Int32)) + (1 : Int32)).toNatClampNeg = k.val + 2 := by decide +kernel
      exact q ⟨no, by omega⟩
    have pre104 : PQ p e below m S0 T87 16 #[rv a1, rv a2, iv (Int32.ofNat no), iv 3, iv (((Int32.ofNat no) + (1 : Int32)) + (1 : Int32))] [(.int (ts.getD (no + 2) 0)), (.ref a1)] := by
      intro t kt
      refine pre87 t ?_
      refine ow_iinc X87.here hx hby d7_19 rfl (l' := #[rv a1, rv a2, iv (Int32.ofNat no), iv 3, iv (((Int32.ofNat no) + (1 : Int32)) + (1 : Int32))]) rfl ?_
      refine ow_goto X87.here hx hby d7_22 (pc' := 3) (by decide) (by decide) ?_
      refine ow_iload X87.here hx hby d7_3 rfl ?_
      refine ow_iloadN X87.here hx hby d7_5 rfl ?_
      refine ow_iloadN X87.here hx hby d7_6 rfl ?_
      refine ow_iadd X87.here hx hby d7_7 ?_
      refine ow_icmpNo X87.here hx hby d7_8 (tlt hf101).2.1 ?_
      refine ow_aloadN X87.here hx hby d7_11 rfl rfl ?_
      refine ow_aloadN X87.here hx hby d7_12 rfl rfl ?_
      refine ow_iload X87.here hx hby d7_13 rfl ?_
      obtain ⟨cl102, Ar102, -, S102, M102, H102, -⟩ := (id V_a2_96)
      have hin102 := inb_of (j := (((Int32.ofNat no) + (1 : Int32)) + (1 : Int32))) S102 ⟨B103.1, B103.2.1⟩
      refine X87.caload hx (j := (((Int32.ofNat no) + (1 : Int32)) + (1 : Int32))) (v := (.int (ts.getD (no + 2) 0))) Ar102.1 (State.isArrayOf_alike hZ.alike Ar102.2.1) Ar102.2.2 hin102 (H102.at hin102 (own_tv B103.2.2 (by omega))) (g := (mkF m 15 #[rv a1, rv a2, iv (Int32.ofNat no), iv 3, iv (((Int32.ofNat no) + (1 : Int32)) + (1 : Int32))] [(.int (((Int32.ofNat no) + (1 : Int32)) + (1 : Int32))), (.ref a2), (.ref a1)])) rfl rfl (hb hby d7_15) _ ?_
      exact kt
    obtain ⟨cq105, q105, q105'⟩ := E_a1_87.cell
    obtain ⟨_, _, ⟨T105, L105, k105, n105⟩, -, X105, ⟨Lc105, hQ105, l105, y105, z105⟩, st105⟩ := X87.privateBack hx (y := mn7) hown (mw hZ hw 99 rfl) (mw hZ hw 100 rfl) (own_sel (mw hZ hw 18 rfl) (Cond.privateMethod_at (mvP hZ (wi hw 101 rfl) (args := #[]))) (mw hZ hw 100 rfl) (by decide)) (Cond.privateMethod_at (mvP hZ (wi hw 101 rfl) (args := #[]))) (mw hZ hw 102 rfl) (by decide) (backOf (W := 0) (rm20 l Z a0 hw [] a1 (ts.getD (no + 2) 0) s1 (own_sl cs hi (own_sl cs hi ln ar (ts.getD (no + 0) 0)) (own_sa cs hi ar (ts.getD (no + 0) 0)) (ts.getD (no + 1) 0)) hi (own_sa cs hi (own_sa cs hi ar (ts.getD (no + 0) 0)) (ts.getD (no + 1) 0)) cs cz fm T87.heap n0 Z87 E_a1_87 Fl_a1_87 Fb_a1_87 Fh_a1_87 Fa_a1_87 E_s1_89 SS_s1_90 sC_91 sF_92 sA_93 sH_94 sL_95 ge_a1 (hCS) (hFM) (hk) (own_tb hts _)) hZ (wi hw 102 rfl) (wi hw 19 rfl) (by decide) (by decide)) (g := (mkF m 16 #[rv a1, rv a2, iv (Int32.ofNat no), iv 3, iv (((Int32.ofNat no) + (1 : Int32)) + (1 : Int32))] [(.int (ts.getD (no + 2) 0)), (.ref a1)])) rfl (by rw [hml]; rfl) (Steps.refl _) (a := a1) q105 q105' (argsL := [(.int (ts.getD (no + 2) 0))]) (rest := []) (lenOf pd_25 rfl) rfl (by show 2 * 0 + _ ≤ _; exact Nat.le_of_eq rfl) (hb hby d7_16) (fun _ _ => ⟨rfl, rfl, (Nat.zero_le _), (Nat.zero_le _)⟩)
    dsimp only [Pt.U, Pt.locs, Pt.cells, Pt.slots] at X105 l105 y105 z105 st105 hQ105
    subst l105 y105 z105
    obtain ⟨rfl, N105q, KC105, P105_0, P105_1, P105_2, P105_3, P105_4⟩ := hQ105
    have N105 := Fr.app N87 N105q
    have Z105 : n0 ≤ T105.heap.size := Nat.le_trans Z87 KC105.1
    have K105 := K87.trans KC105 (allS (Or.inl (List.mem_of_getElem? (i := 0) rfl)) all0)
    have E_a1_87_106 := E_a1_87.keep KC105
    have E_s1_107 := E_s1_89.keep KC105
    have SS_s1_108 := own_Skeep SS_s1_90 KC105 E_a1_87 (wi hw 18 rfl) (by decide)
    have sC_109 := own_stak sC_91 KC105 (nsS E_a1_87.nostat ns0)
    have sF_110 := own_stak sF_92 KC105 (nsS E_a1_87.nostat ns0)
    have sA_111 := own_stak sA_93 KC105 (nsS E_a1_87.nostat ns0)
    have sH_112 := own_stak sH_94 KC105 (nsS E_a1_87.nostat ns0)
    have sL_113 := own_stak sL_95 KC105 (nsS E_a1_87.nostat ns0)
    have V_a2_114 := V_a2_96.keep KC105 (ninS (Ne.symm (own_neArv E_a1_87 (wi hw 18 rfl) V_a2_96)) nin0)
    have E_a1_105 : exa1 Z T105.heap a1 := P105_0
    have Fl_a1_105 : fld2 Z T105.heap a1 (.int (own_sl cs hi (own_sl cs hi (own_sl cs hi ln ar (ts.getD (no + 0) 0)) (own_sa cs hi ar (ts.getD (no + 0) 0)) (ts.getD (no + 1) 0)) (own_sa cs hi (own_sa cs hi ar (ts.getD (no + 0) 0)) (ts.getD (no + 1) 0)) (ts.getD (no + 2) 0))) := P105_1
    have Fb_a1_105 : fld4 Z T105.heap a1 (.ref s1) := P105_2
    have Fh_a1_105 : fld5 Z T105.heap a1 (.int hi) := P105_3
    have Fa_a1_105 : fld3 Z T105.heap a1 (.int (own_sa cs hi (own_sa cs hi (own_sa cs hi ar (ts.getD (no + 0) 0)) (ts.getD (no + 1) 0)) (ts.getD (no + 2) 0))) := P105_4
    have pre105 : PQ p e below m S0 T105 19 #[rv a1, rv a2, iv (Int32.ofNat no), iv 3, iv (((Int32.ofNat no) + (1 : Int32)) + (1 : Int32))] [] := fun t kt => pre104 t (st105.trans kt)
    have hf119 : ¬ (((((Int32.ofNat no) + (1 : Int32)) + (1 : Int32)) + (1 : Int32)) < ((Int32.ofNat no) + (3 : Int32))) := by
      have q : ∀ k : Fin 5, ¬ (((((Int32.ofNat k.val) + (1 : Int32)) + (1 : Int32)) + (1 : Int32)) < ((Int32.ofNat k.val) + (3 : Int32))) := by decide +kernel
      exact q ⟨no, by omega⟩
    have pre120 : PQ p e below m S0 T105 25 #[rv a1, rv a2, iv (Int32.ofNat no), iv 3, iv ((((Int32.ofNat no) + (1 : Int32)) + (1 : Int32)) + (1 : Int32))] [] := by
      intro t kt
      refine pre105 t ?_
      refine ow_iinc X105.here hx hby d7_19 rfl (l' := #[rv a1, rv a2, iv (Int32.ofNat no), iv 3, iv ((((Int32.ofNat no) + (1 : Int32)) + (1 : Int32)) + (1 : Int32))]) rfl ?_
      refine ow_goto X105.here hx hby d7_22 (pc' := 3) (by decide) (by decide) ?_
      refine ow_iload X105.here hx hby d7_3 rfl ?_
      refine ow_iloadN X105.here hx hby d7_5 rfl ?_
      refine ow_iloadN X105.here hx hby d7_6 rfl ?_
      refine ow_iadd X105.here hx hby d7_7 ?_
      refine ow_icmpYes X105.here hx hby d7_8 (flt hf119).2.1 (pc' := 25) (by decide) (by decide) ?_
      exact kt
    obtain ⟨fs, hr, hu, hd, hW, hme⟩ := X105.leave (v := none) (fun _ => rfl)
    refine ⟨_, _, pre120 _ ?_, hu, hd, _, _, rfl, ?_, ⟨_, rfl⟩, hW, hme.mono (by decide) (by decide)⟩
    · show SQ p e below m T105 25 #[rv a1, rv a2, iv (Int32.ofNat no), iv 3, iv ((((Int32.ofNat no) + (1 : Int32)) + (1 : Int32)) + (1 : Int32))] [] _
      exact X105.returnOut hx Bd.returns (hb hby d7_25) hr
    · show Qrm7 Z a1 a2 (Int32.ofNat no) (Int32.ofNat 3) s1 ln hi ar cs cz fm kc ts no 3 h0 n0 _ T105.heap _
      exact ⟨rfl, N105, K105, E_a1_105, Fl_a1_105, Fb_a1_105, Fh_a1_105, Fa_a1_105⟩
  · skip
    have pre121 : PQ p e below m S0 s₁ 0 #[rv a1, rv a2, iv (Int32.ofNat no), iv 4, un] [] := fun t kt => pre0 t ((show Steps p.tables e below _ t from kt))
    have hf122 : ((Int32.ofNat no) < ((Int32.ofNat no) + (4 : Int32))) := by
      have q : ∀ k : Fin 5, ((Int32.ofNat k.val) < ((Int32.ofNat k.val) + (4 : Int32))) := by decide +kernel
      exact q ⟨no, by omega⟩
    have B124 : ¬ (Int32.ofNat no) < (0 : Int32) ∧ (Int32.ofNat no) < (4 : Int32) ∧ (Int32.ofNat no).toNatClampNeg = no + 0 := by
      have q : ∀ k : Fin 4, ¬ (Int32.ofNat k.val) < (0 : Int32) ∧ (Int32.ofNat k.val) < (4 : Int32) ∧ (Int32.ofNat k.val).toNatClampNeg = k.val + 0 := by decide +kernel
      exact q ⟨no, by omega⟩
    have pre125 : PQ p e below m S0 s₁ 16 #[rv a1, rv a2, iv (Int32.ofNat no), iv 4, iv (Int32.ofNat no)] [(.int (ts.getD (no + 0) 0)), (.ref a1)] := by
      intro t kt
      refine pre121 t ?_
      refine ow_iloadN X0.here hx hby d7_0 rfl ?_
      refine ow_istore X0.here hx hby d7_1 (l' := #[rv a1, rv a2, iv (Int32.ofNat no), iv 4, iv (Int32.ofNat no)]) rfl ?_
      refine ow_iload X0.here hx hby d7_3 rfl ?_
      refine ow_iloadN X0.here hx hby d7_5 rfl ?_
      refine ow_iloadN X0.here hx hby d7_6 rfl ?_
      refine ow_iadd X0.here hx hby d7_7 ?_
      refine ow_icmpNo X0.here hx hby d7_8 (tlt hf122).2.1 ?_
      refine ow_aloadN X0.here hx hby d7_11 rfl rfl ?_
      refine ow_aloadN X0.here hx hby d7_12 rfl rfl ?_
      refine ow_iload X0.here hx hby d7_13 rfl ?_
      obtain ⟨cl123, Ar123, -, S123, M123, H123, -⟩ := (id V_a2)
      have hin123 := inb_of (j := (Int32.ofNat no)) S123 ⟨B124.1, B124.2.1⟩
      refine X0.caload hx (j := (Int32.ofNat no)) (v := (.int (ts.getD (no + 0) 0))) (by rw [e0]; exact Ar123.1) (State.isArrayOf_alike hZ.alike Ar123.2.1) Ar123.2.2 hin123 (H123.at hin123 (own_tv B124.2.2 (by omega))) (g := (mkF m 15 #[rv a1, rv a2, iv (Int32.ofNat no), iv 4, iv (Int32.ofNat no)] [(.int (Int32.ofNat no)), (.ref a2), (.ref a1)])) rfl rfl (hb hby d7_15) _ ?_
      exact kt
    obtain ⟨cq126, q126, q126'⟩ := E_a1.cell
    obtain ⟨_, _, ⟨T126, L126, k126, n126⟩, -, X126, ⟨Lc126, hQ126, l126, y126, z126⟩, st126⟩ := X0.privateBack hx (y := mn7) hown (mw hZ hw 99 rfl) (mw hZ hw 100 rfl) (own_sel (mw hZ hw 18 rfl) (Cond.privateMethod_at (mvP hZ (wi hw 101 rfl) (args := #[]))) (mw hZ hw 100 rfl) (by decide)) (Cond.privateMethod_at (mvP hZ (wi hw 101 rfl) (args := #[]))) (mw hZ hw 102 rfl) (by decide) (backOf (W := 0) (rm20 l Z a0 hw [] a1 (ts.getD (no + 0) 0) s1 ln hi ar cs cz fm h0 n0 Z0 E_a1 Fl_a1 Fb_a1 Fh_a1 Fa_a1 E_s1 SS_s1 sC sF sA sH sL ge_a1 (hCS) (hFM) (hk) (own_tb hts _)) hZ (wi hw 102 rfl) (wi hw 19 rfl) (by decide) (by decide)) (g := (mkF m 16 #[rv a1, rv a2, iv (Int32.ofNat no), iv 4, iv (Int32.ofNat no)] [(.int (ts.getD (no + 0) 0)), (.ref a1)])) rfl (by rw [hml]; rfl) (Steps.refl _) (a := a1) (by rw [e0]; exact q126) q126' (argsL := [(.int (ts.getD (no + 0) 0))]) (rest := []) (lenOf pd_25 rfl) rfl (by show 2 * 0 + _ ≤ _; exact Nat.le_of_eq rfl) (hb hby d7_16) (fun _ _ => ⟨rfl, e0, (Nat.zero_le _), (Nat.zero_le _)⟩)
    dsimp only [Pt.U, Pt.locs, Pt.cells, Pt.slots] at X126 l126 y126 z126 st126 hQ126
    subst l126 y126 z126
    obtain ⟨rfl, N126q, KC126, P126_0, P126_1, P126_2, P126_3, P126_4⟩ := hQ126
    have N126 := Fr.app N0 N126q
    have Z126 : n0 ≤ T126.heap.size := Nat.le_trans Z0 KC126.1
    have K126 := (Keep.refl h0 [a1]).trans KC126 (allS (Or.inl (List.mem_of_getElem? (i := 0) rfl)) all0)
    have E_a1_127 := E_a1.keep KC126
    have E_s1_132 := E_s1.keep KC126
    have SS_s1_133 := own_Skeep SS_s1 KC126 E_a1 (wi hw 18 rfl) (by decide)
    have sC_134 := own_stak sC KC126 (nsS E_a1.nostat ns0)
    have sF_135 := own_stak sF KC126 (nsS E_a1.nostat ns0)
    have sA_136 := own_stak sA KC126 (nsS E_a1.nostat ns0)
    have sH_137 := own_stak sH KC126 (nsS E_a1.nostat ns0)
    have sL_138 := own_stak sL KC126 (nsS E_a1.nostat ns0)
    have V_a2_139 := V_a2.keep KC126 (ninS (Ne.symm (own_neArv E_a1 (wi hw 18 rfl) V_a2)) nin0)
    have E_a1_126 : exa1 Z T126.heap a1 := P126_0
    have Fl_a1_126 : fld2 Z T126.heap a1 (.int (own_sl cs hi ln ar (ts.getD (no + 0) 0))) := P126_1
    have Fb_a1_126 : fld4 Z T126.heap a1 (.ref s1) := P126_2
    have Fh_a1_126 : fld5 Z T126.heap a1 (.int hi) := P126_3
    have Fa_a1_126 : fld3 Z T126.heap a1 (.int (own_sa cs hi ar (ts.getD (no + 0) 0))) := P126_4
    have pre126 : PQ p e below m S0 T126 19 #[rv a1, rv a2, iv (Int32.ofNat no), iv 4, iv (Int32.ofNat no)] [] := fun t kt => pre125 t (st126.trans kt)
    have hf140 : (((Int32.ofNat no) + (1 : Int32)) < ((Int32.ofNat no) + (4 : Int32))) := by
      have q : ∀ k : Fin 5, (((Int32.ofNat k.val) + (1 : Int32)) < ((Int32.ofNat k.val) + (4 : Int32))) := by decide +kernel
      exact q ⟨no, by omega⟩
    have B142 : ¬ ((Int32.ofNat no) + (1 : Int32)) < (0 : Int32) ∧ ((Int32.ofNat no) + (1 : Int32)) < (4 : Int32) ∧ ((Int32.ofNat no) + (1 : Int32)).toNatClampNeg = no + 1 := by
      have q : ∀ k : Fin 3, ¬ ((Int32.ofNat k.val) + (1 : Int32)) < (0 : Int32) ∧ ((Int32.ofNat k.val) + (1 : Int32)) < (4 : Int32) ∧ ((Int32.ofNat k.val) + (1 : Int32)).toNatClampNeg = k.val + 1 := by decide +kernel
      exact q ⟨no, by omega⟩
    have pre143 : PQ p e below m S0 T126 16 #[rv a1, rv a2, iv (Int32.ofNat no), iv 4, iv ((Int32.ofNat no) + (1 : Int32))] [(.int (ts.getD (no + 1) 0)), (.ref a1)] := by
      intro t kt
      refine pre126 t ?_
      refine ow_iinc X126.here hx hby d7_19 rfl (l' := #[rv a1, rv a2, iv (Int32.ofNat no), iv 4, iv ((Int32.ofNat no) + (1 : Int32))]) rfl ?_
      refine ow_goto X126.here hx hby d7_22 (pc' := 3) (by decide) (by decide) ?_
      refine ow_iload X126.here hx hby d7_3 rfl ?_
      refine ow_iloadN X126.here hx hby d7_5 rfl ?_
      refine ow_iloadN X126.here hx hby d7_6 rfl ?_
      refine ow_iadd X126.here hx hby d7_7 ?_
      refine ow_icmpNo X126.here hx hby d7_8 (tlt hf140).2.1 ?_
      refine ow_aloadN X126.here hx hby d7_11 rfl rfl ?_
      refine ow_aloadN X126.here hx hby d7_12 rfl rfl ?_
      refine ow_iload X126.here hx hby d7_13 rfl ?_
      obtain ⟨cl141, Ar141, -, S141, M141, H141, -⟩ := (id V_a2_139)
      have hin141 := inb_of (j := ((Int32.ofNat no) + (1 : Int32))) S141 ⟨B142.1, B142.2.1⟩
      refine X126.caload hx (j := ((Int32.ofNat no) + (1 : Int32))) (v := (.int (ts.getD (no + 1) 0))) Ar141.1 (State.isArrayOf_alike hZ.alike Ar141.2.1) Ar141.2.2 hin141 (H141.at hin141 (own_tv B142.2.2 (by omega))) (g := (mkF m 15 #[rv a1, rv a2, iv (Int32.ofNat no), iv 4, iv ((Int32.ofNat no) + (1 : Int32))] [(.int ((Int32.ofNat no) + (1 : Int32))), (.ref a2), (.ref a1)])) rfl rfl (hb hby d7_15) _ ?_
      exact kt
    obtain ⟨cq144, q144, q144'⟩ := E_a1_126.cell
    obtain ⟨_, _, ⟨T144, L144, k144, n144⟩, -, X144, ⟨Lc144, hQ144, l144, y144, z144⟩, st144⟩ := X126.privateBack hx (y := mn7) hown (mw hZ hw 99 rfl) (mw hZ hw 100 rfl) (own_sel (mw hZ hw 18 rfl) (Cond.privateMethod_at (mvP hZ (wi hw 101 rfl) (args := #[]))) (mw hZ hw 100 rfl) (by decide)) (Cond.privateMethod_at (mvP hZ (wi hw 101 rfl) (args := #[]))) (mw hZ hw 102 rfl) (by decide) (backOf (W := 0) (rm20 l Z a0 hw [] a1 (ts.getD (no + 1) 0) s1 (own_sl cs hi ln ar (ts.getD (no + 0) 0)) hi (own_sa cs hi ar (ts.getD (no + 0) 0)) cs cz fm T126.heap n0 Z126 E_a1_126 Fl_a1_126 Fb_a1_126 Fh_a1_126 Fa_a1_126 E_s1_132 SS_s1_133 sC_134 sF_135 sA_136 sH_137 sL_138 ge_a1 (hCS) (hFM) (hk) (own_tb hts _)) hZ (wi hw 102 rfl) (wi hw 19 rfl) (by decide) (by decide)) (g := (mkF m 16 #[rv a1, rv a2, iv (Int32.ofNat no), iv 4, iv ((Int32.ofNat no) + (1 : Int32))] [(.int (ts.getD (no + 1) 0)), (.ref a1)])) rfl (by rw [hml]; rfl) (Steps.refl _) (a := a1) q144 q144' (argsL := [(.int (ts.getD (no + 1) 0))]) (rest := []) (lenOf pd_25 rfl) rfl (by show 2 * 0 + _ ≤ _; exact Nat.le_of_eq rfl) (hb hby d7_16) (fun _ _ => ⟨rfl, rfl, (Nat.zero_le _), (Nat.zero_le _)⟩)
    dsimp only [Pt.U, Pt.locs, Pt.cells, Pt.slots] at X144 l144 y144 z144 st144 hQ144
    subst l144 y144 z144
    obtain ⟨rfl, N144q, KC144, P144_0, P144_1, P144_2, P144_3, P144_4⟩ := hQ144
    have N144 := Fr.app N126 N144q
    have Z144 : n0 ≤ T144.heap.size := Nat.le_trans Z126 KC144.1
    have K144 := K126.trans KC144 (allS (Or.inl (List.mem_of_getElem? (i := 0) rfl)) all0)
    have E_a1_126_145 := E_a1_126.keep KC144
    have E_s1_146 := E_s1_132.keep KC144
    have SS_s1_147 := own_Skeep SS_s1_133 KC144 E_a1_126 (wi hw 18 rfl) (by decide)
    have sC_148 := own_stak sC_134 KC144 (nsS E_a1_126.nostat ns0)
    have sF_149 := own_stak sF_135 KC144 (nsS E_a1_126.nostat ns0)
    have sA_150 := own_stak sA_136 KC144 (nsS E_a1_126.nostat ns0)
    have sH_151 := own_stak sH_137 KC144 (nsS E_a1_126.nostat ns0)
    have sL_152 := own_stak sL_138 KC144 (nsS E_a1_126.nostat ns0)
    have V_a2_153 := V_a2_139.keep KC144 (ninS (Ne.symm (own_neArv E_a1_126 (wi hw 18 rfl) V_a2_139)) nin0)
    have E_a1_144 : exa1 Z T144.heap a1 := P144_0
    have Fl_a1_144 : fld2 Z T144.heap a1 (.int (own_sl cs hi (own_sl cs hi ln ar (ts.getD (no + 0) 0)) (own_sa cs hi ar (ts.getD (no + 0) 0)) (ts.getD (no + 1) 0))) := P144_1
    have Fb_a1_144 : fld4 Z T144.heap a1 (.ref s1) := P144_2
    have Fh_a1_144 : fld5 Z T144.heap a1 (.int hi) := P144_3
    have Fa_a1_144 : fld3 Z T144.heap a1 (.int (own_sa cs hi (own_sa cs hi ar (ts.getD (no + 0) 0)) (ts.getD (no + 1) 0))) := P144_4
    have pre144 : PQ p e below m S0 T144 19 #[rv a1, rv a2, iv (Int32.ofNat no), iv 4, iv ((Int32.ofNat no) + (1 : Int32))] [] := fun t kt => pre143 t (st144.trans kt)
    have hf158 : ((((Int32.ofNat no) + (1 : Int32)) + (1 : Int32)) < ((Int32.ofNat no) + (4 : Int32))) := by
      have q : ∀ k : Fin 5, ((((Int32.ofNat k.val) + (1 : Int32)) + (1 : Int32)) < ((Int32.ofNat k.val) + (4 : Int32))) := by decide +kernel
      exact q ⟨no, by omega⟩
    have B160 : ¬ (((Int32.ofNat no) + (1 : Int32)) + (1 : Int32)) < (0 : Int32) ∧ (((Int32.ofNat no) + (1 : Int32)) + (1 : Int32)) < (4 : Int32) ∧ (((Int32.ofNat no) + (1 : Int32)) + (1 : Int32)).toNatClampNeg = no + 2 := by
      have q : ∀ k : Fin 2, ¬ (((Int32.ofNat k.val) + (1 : Int32)) + (1 : Int32)) < (0 : Int32) ∧ (((Int32.ofNat k.val) + (1 : Int32)) + (1 : Int32)) < (4 : Int32) ∧ (((Int32.ofNat k.val) + (1 : Int32)) + (1 : Int32)).toNatClampNeg = k.val + 2 := by decide +kernel
      exact q ⟨no, by omega⟩
    have pre161 : PQ p e below m S0 T144 16 #[rv a1, rv a2, iv (Int32.ofNat no), iv 4, iv (((Int32.ofNat no) + (1 : Int32)) + (1 : Int32))] [(.int (ts.getD (no + 2) 0)), (.ref a1)] := by
      intro t kt
      refine pre144 t ?_
      refine ow_iinc X144.here hx hby d7_19 rfl (l' := #[rv a1, rv a2, iv (Int32.ofNat no), iv 4, iv (((Int32.ofNat no) + (1 : Int32)) + (1 : Int32))]) rfl ?_
      refine ow_goto X144.here hx hby d7_22 (pc' := 3) (by decide) (by decide) ?_
      refine ow_iload X144.here hx hby d7_3 rfl ?_
      refine ow_iloadN X144.here hx hby d7_5 rfl ?_
      refine ow_iloadN X144.here hx hby d7_6 rfl ?_
      refine ow_iadd X144.here hx hby d7_7 ?_
      refine ow_icmpNo X144.here hx hby d7_8 (tlt hf158).2.1 ?_
      refine ow_aloadN X144.here hx hby d7_11 rfl rfl ?_
      refine ow_aloadN X144.here hx hby d7_12 rfl rfl ?_
      refine ow_iload X144.here hx hby d7_13 rfl ?_
      obtain ⟨cl159, Ar159, -, S159, M159, H159, -⟩ := (id V_a2_153)
      have hin159 := inb_of (j := (((Int32.ofNat no) + (1 : Int32)) + (1 : Int32))) S159 ⟨B160.1, B160.2.1⟩
      refine X144.caload hx (j := (((Int32.ofNat no) + (1 : Int32)) + (1 : Int32))) (v := (.int (ts.getD (no + 2) 0))) Ar159.1 (State.isArrayOf_alike hZ.alike Ar159.2.1) Ar159.2.2 hin159 (H159.at hin159 (own_tv B160.2.2 (by omega))) (g := (mkF m 15 #[rv a1, rv a2, iv (Int32.ofNat no), iv 4, iv (((Int32.ofNat no) + (1 : Int32)) + (1 : Int32))] [(.int (((Int32.ofNat no) + (1 : Int32)) + (1 : Int32))), (.ref a2), (.ref a1)])) rfl rfl (hb hby d7_15) _ ?_
      exact kt
    obtain ⟨cq162, q162, q162'⟩ := E_a1_144.cell
    obtain ⟨_, _, ⟨T162, L162, k162, n162⟩, -, X162, ⟨Lc162, hQ162, l162, y162, z162⟩, st162⟩ := X144.privateBack hx (y := mn7) hown (mw hZ hw 99 rfl) (mw hZ hw 100 rfl) (own_sel (mw hZ hw 18 rfl) (Cond.privateMethod_at (mvP hZ (wi hw 101 rfl) (args := #[]))) (mw hZ hw 100 rfl) (by decide)) (Cond.privateMethod_at (mvP hZ (wi hw 101 rfl) (args := #[]))) (mw hZ hw 102 rfl) (by decide) (backOf (W := 0) (rm20 l Z a0 hw [] a1 (ts.getD (no + 2) 0) s1 (own_sl cs hi (own_sl cs hi ln ar (ts.getD (no + 0) 0)) (own_sa cs hi ar (ts.getD (no + 0) 0)) (ts.getD (no + 1) 0)) hi (own_sa cs hi (own_sa cs hi ar (ts.getD (no + 0) 0)) (ts.getD (no + 1) 0)) cs cz fm T144.heap n0 Z144 E_a1_144 Fl_a1_144 Fb_a1_144 Fh_a1_144 Fa_a1_144 E_s1_146 SS_s1_147 sC_148 sF_149 sA_150 sH_151 sL_152 ge_a1 (hCS) (hFM) (hk) (own_tb hts _)) hZ (wi hw 102 rfl) (wi hw 19 rfl) (by decide) (by decide)) (g := (mkF m 16 #[rv a1, rv a2, iv (Int32.ofNat no), iv 4, iv (((Int32.ofNat no) + (1 : Int32)) + (1 : Int32))] [(.int (ts.getD (no + 2) 0)), (.ref a1)])) rfl (by rw [hml]; rfl) (Steps.refl _) (a := a1) q162 q162' (argsL := [(.int (ts.getD (no + 2) 0))]) (rest := []) (lenOf pd_25 rfl) rfl (by show 2 * 0 + _ ≤ _; exact Nat.le_of_eq rfl) (hb hby d7_16) (fun _ _ => ⟨rfl, rfl, (Nat.zero_le _), (Nat.zero_le _)⟩)
    dsimp only [Pt.U, Pt.locs, Pt.cells, Pt.slots] at X162 l162 y162 z162 st162 hQ162
    subst l162 y162 z162
    obtain ⟨rfl, N162q, KC162, P162_0, P162_1, P162_2, P162_3, P162_4⟩ := hQ162
    have N162 := Fr.app N144 N162q
    have Z162 : n0 ≤ T162.heap.size := Nat.le_trans Z144 KC162.1
    have K162 := K144.trans KC162 (allS (Or.inl (List.mem_of_getElem? (i := 0) rfl)) all0)
    have E_a1_144_163 := E_a1_144.keep KC162
    have E_s1_164 := E_s1_146.keep KC162
    have SS_s1_165 := own_Skeep SS_s1_147 KC162 E_a1_144 (wi hw 18 rfl) (by decide)
    have sC_166 := own_stak sC_148 KC162 (nsS E_a1_144.nostat ns0)
    have sF_167 := own_stak sF_149 KC162 (nsS E_a1_144.nostat ns0)
    have sA_168 := own_stak sA_150 KC162 (nsS E_a1_144.nostat ns0)
    have sH_169 := own_stak sH_151 KC162 (nsS E_a1_144.nostat ns0)
    have sL_170 := own_stak sL_152 KC162 (nsS E_a1_144.nostat ns0)
    have V_a2_171 := V_a2_153.keep KC162 (ninS (Ne.symm (own_neArv E_a1_144 (wi hw 18 rfl) V_a2_153)) nin0)
    have E_a1_162 : exa1 Z T162.heap a1 := P162_0
    have Fl_a1_162 : fld2 Z T162.heap a1 (.int (own_sl cs hi (own_sl cs hi (own_sl cs hi ln ar (ts.getD (no + 0) 0)) (own_sa cs hi ar (ts.getD (no + 0) 0)) (ts.getD (no + 1) 0)) (own_sa cs hi (own_sa cs hi ar (ts.getD (no + 0) 0)) (ts.getD (no + 1) 0)) (ts.getD (no + 2) 0))) := P162_1
    have Fb_a1_162 : fld4 Z T162.heap a1 (.ref s1) := P162_2
    have Fh_a1_162 : fld5 Z T162.heap a1 (.int hi) := P162_3
    have Fa_a1_162 : fld3 Z T162.heap a1 (.int (own_sa cs hi (own_sa cs hi (own_sa cs hi ar (ts.getD (no + 0) 0)) (ts.getD (no + 1) 0)) (ts.getD (no + 2) 0))) := P162_4
    have pre162 : PQ p e below m S0 T162 19 #[rv a1, rv a2, iv (Int32.ofNat no), iv 4, iv (((Int32.ofNat no) + (1 : Int32)) + (1 : Int32))] [] := fun t kt => pre161 t (st162.trans kt)
    have hf176 : (((((Int32.ofNat no) + (1 : Int32)) + (1 : Int32)) + (1 : Int32)) < ((Int32.ofNat no) + (4 : Int32))) := by
      have q : ∀ k : Fin 5, (((((Int32.ofNat k.val) + (1 : Int32)) + (1 : Int32)) + (1 : Int32)) < ((Int32.ofNat k.val) + (4 : Int32))) := by decide +kernel
      exact q ⟨no, by omega⟩
    have B178 : ¬ ((((Int32.ofNat no) + (1 : Int32)) + (1 : Int32)) + (1 : Int32)) < (0 : Int32) ∧ ((((Int32.ofNat no) + (1 : Int32)) + (1 : Int32)) + (1 : Int32)) < (4 : Int32) ∧ ((((Int32.ofNat no) + (1 : Int32)) + (1 : Int32)) + (1 : Int32)).toNatClampNeg = no + 3 := by
      have q : ∀ k : Fin 1, ¬ ((((Int32.ofNat k.val) + (1 : Int32)) + (1 : Int32)) + (1 : Int32)) < (0 : Int32) ∧ ((((Int32.ofNat k.val) + (1 : Int32)) + (1 : Int32)) + (1 : Int32)) < (4 : Int32) ∧ ((((Int32.ofNat k.val) + (1 : Int32)) + (1 : Int32)) + (1 : Int32)).toNatClampNeg = k.val + 3 := by decide +kernel
      exact q ⟨no, by omega⟩
    have pre179 : PQ p e below m S0 T162 16 #[rv a1, rv a2, iv (Int32.ofNat no), iv 4, iv ((((Int32.ofNat no) + (1 : Int32)) + (1 : Int32)) + (1 : Int32))] [(.int (ts.getD (no + 3) 0)), (.ref a1)] := by
      intro t kt
      refine pre162 t ?_
      refine ow_iinc X162.here hx hby d7_19 rfl (l' := #[rv a1, rv a2, iv (Int32.ofNat no), iv 4, iv ((((Int32.ofNat no) + (1 : Int32)) + (1 : Int32)) + (1 : Int32))]) rfl ?_
      refine ow_goto X162.here hx hby d7_22 (pc' := 3) (by decide) (by decide) ?_
      refine ow_iload X162.here hx hby d7_3 rfl ?_
      refine ow_iloadN X162.here hx hby d7_5 rfl ?_
      refine ow_iloadN X162.here hx hby d7_6 rfl ?_
      refine ow_iadd X162.here hx hby d7_7 ?_
      refine ow_icmpNo X162.here hx hby d7_8 (tlt hf176).2.1 ?_
      refine ow_aloadN X162.here hx hby d7_11 rfl rfl ?_
      refine ow_aloadN X162.here hx hby d7_12 rfl rfl ?_
      refine ow_iload X162.here hx hby d7_13 rfl ?_
      obtain ⟨cl177, Ar177, -, S177, M177, H177, -⟩ := (id V_a2_171)
      have hin177 := inb_of (j := ((((Int32.ofNat no) + (1 : Int32)) + (1 : Int32)) + (1 : Int32))) S177 ⟨B178.1, B178.2.1⟩
      refine X162.caload hx (j := ((((Int32.ofNat no) + (1 : Int32)) + (1 : Int32)) + (1 : Int32))) (v := (.int (ts.getD (no + 3) 0))) Ar177.1 (State.isArrayOf_alike hZ.alike Ar177.2.1) Ar177.2.2 hin177 (H177.at hin177 (own_tv B178.2.2 (by omega))) (g := (mkF m 15 #[rv a1, rv a2, iv (Int32.ofNat no), iv 4, iv ((((Int32.ofNat no) + (1 : Int32)) + (1 : Int32)) + (1 : Int32))] [(.int ((((Int32.ofNat no) + (1 : Int32)) + (1 : Int32)) + (1 : Int32))), (.ref a2), (.ref a1)])) rfl rfl (hb hby d7_15) _ ?_
      exact kt
    obtain ⟨cq180, q180, q180'⟩ := E_a1_162.cell
    obtain ⟨_, _, ⟨T180, L180, k180, n180⟩, -, X180, ⟨Lc180, hQ180, l180, y180, z180⟩, st180⟩ := X162.privateBack hx (y := mn7) hown (mw hZ hw 99 rfl) (mw hZ hw 100 rfl) (own_sel (mw hZ hw 18 rfl) (Cond.privateMethod_at (mvP hZ (wi hw 101 rfl) (args := #[]))) (mw hZ hw 100 rfl) (by decide)) (Cond.privateMethod_at (mvP hZ (wi hw 101 rfl) (args := #[]))) (mw hZ hw 102 rfl) (by decide) (backOf (W := 0) (rm20 l Z a0 hw [] a1 (ts.getD (no + 3) 0) s1 (own_sl cs hi (own_sl cs hi (own_sl cs hi ln ar (ts.getD (no + 0) 0)) (own_sa cs hi ar (ts.getD (no + 0) 0)) (ts.getD (no + 1) 0)) (own_sa cs hi (own_sa cs hi ar (ts.getD (no + 0) 0)) (ts.getD (no + 1) 0)) (ts.getD (no + 2) 0)) hi (own_sa cs hi (own_sa cs hi (own_sa cs hi ar (ts.getD (no + 0) 0)) (ts.getD (no + 1) 0)) (ts.getD (no + 2) 0)) cs cz fm T162.heap n0 Z162 E_a1_162 Fl_a1_162 Fb_a1_162 Fh_a1_162 Fa_a1_162 E_s1_164 SS_s1_165 sC_166 sF_167 sA_168 sH_169 sL_170 ge_a1 (hCS) (hFM) (hk) (own_tb hts _)) hZ (wi hw 102 rfl) (wi hw 19 rfl) (by decide) (by decide)) (g := (mkF m 16 #[rv a1, rv a2, iv (Int32.ofNat no), iv 4, iv ((((Int32.ofNat no) + (1 : Int32)) + (1 : Int32)) + (1 : Int32))] [(.int (ts.getD (no + 3) 0)), (.ref a1)])) rfl (by rw [hml]; rfl) (Steps.refl _) (a := a1) q180 q180' (argsL := [(.int (ts.getD (no + 3) 0))]) (rest := []) (lenOf pd_25 rfl) rfl (by show 2 * 0 + _ ≤ _; exact Nat.le_of_eq rfl) (hb hby d7_16) (fun _ _ => ⟨rfl, rfl, (Nat.zero_le _), (Nat.zero_le _)⟩)
    dsimp only [Pt.U, Pt.locs, Pt.cells, Pt.slots] at X180 l180 y180 z180 st180 hQ180
    subst l180 y180 z180
    obtain ⟨rfl, N180q, KC180, P180_0, P180_1, P180_2, P180_3, P180_4⟩ := hQ180
    have N180 := Fr.app N162 N180q
    have Z180 : n0 ≤ T180.heap.size := Nat.le_trans Z162 KC180.1
    have K180 := K162.trans KC180 (allS (Or.inl (List.mem_of_getElem? (i := 0) rfl)) all0)
    have E_a1_162_181 := E_a1_162.keep KC180
    have E_s1_182 := E_s1_164.keep KC180
    have SS_s1_183 := own_Skeep SS_s1_165 KC180 E_a1_162 (wi hw 18 rfl) (by decide)
    have sC_184 := own_stak sC_166 KC180 (nsS E_a1_162.nostat ns0)
    have sF_185 := own_stak sF_167 KC180 (nsS E_a1_162.nostat ns0)
    have sA_186 := own_stak sA_168 KC180 (nsS E_a1_162.nostat ns0)
    have sH_187 := own_stak sH_169 KC180 (nsS E_a1_162.nostat ns0)
    have sL_188 := own_stak sL_170 KC180 (nsS E_a1_162.nostat ns0)
    have V_a2_189 := V_a2_171.keep KC180 (ninS (Ne.symm (own_neArv E_a1_162 (wi hw 18 rfl) V_a2_171)) nin0)
    have E_a1_180 : exa1 Z T180.heap a1 := P180_0
    have Fl_a1_180 : fld2 Z T180.heap a1 (.int (own_sl cs hi (own_sl cs hi (own_sl cs hi (own_sl cs hi ln ar (ts.getD (no + 0) 0)) (own_sa cs hi ar (ts.getD (no + 0) 0)) (ts.getD (no + 1) 0)) (own_sa cs hi (own_sa cs hi ar (ts.getD (no + 0) 0)) (ts.getD (no + 1) 0)) (ts.getD (no + 2) 0)) (own_sa cs hi (own_sa cs hi (own_sa cs hi ar (ts.getD (no + 0) 0)) (ts.getD (no + 1) 0)) (ts.getD (no + 2) 0)) (ts.getD (no + 3) 0))) := P180_1
    have Fb_a1_180 : fld4 Z T180.heap a1 (.ref s1) := P180_2
    have Fh_a1_180 : fld5 Z T180.heap a1 (.int hi) := P180_3
    have Fa_a1_180 : fld3 Z T180.heap a1 (.int (own_sa cs hi (own_sa cs hi (own_sa cs hi (own_sa cs hi ar (ts.getD (no + 0) 0)) (ts.getD (no + 1) 0)) (ts.getD (no + 2) 0)) (ts.getD (no + 3) 0))) := P180_4
    have pre180 : PQ p e below m S0 T180 19 #[rv a1, rv a2, iv (Int32.ofNat no), iv 4, iv ((((Int32.ofNat no) + (1 : Int32)) + (1 : Int32)) + (1 : Int32))] [] := fun t kt => pre179 t (st180.trans kt)
    have hf194 : ¬ ((((((Int32.ofNat no) + (1 : Int32)) + (1 : Int32)) + (1 : Int32)) + (1 : Int32)) < ((Int32.ofNat no) + (4 : Int32))) := by
      have q : ∀ k : Fin 5, ¬ ((((((Int32.ofNat k.val) + (1 : Int32)) + (1 : Int32)) + (1 : Int32)) + (1 : Int32)) < ((Int32.ofNat k.val) + (4 : Int32))) := by decide +kernel
      exact q ⟨no, by omega⟩
    have pre195 : PQ p e below m S0 T180 25 #[rv a1, rv a2, iv (Int32.ofNat no), iv 4, iv (((((Int32.ofNat no) + (1 : Int32)) + (1 : Int32)) + (1 : Int32)) + (1 : Int32))] [] := by
      intro t kt
      refine pre180 t ?_
      refine ow_iinc X180.here hx hby d7_19 rfl (l' := #[rv a1, rv a2, iv (Int32.ofNat no), iv 4, iv (((((Int32.ofNat no) + (1 : Int32)) + (1 : Int32)) + (1 : Int32)) + (1 : Int32))]) rfl ?_
      refine ow_goto X180.here hx hby d7_22 (pc' := 3) (by decide) (by decide) ?_
      refine ow_iload X180.here hx hby d7_3 rfl ?_
      refine ow_iloadN X180.here hx hby d7_5 rfl ?_
      refine ow_iloadN X180.here hx hby d7_6 rfl ?_
      refine ow_iadd X180.here hx hby d7_7 ?_
      refine ow_icmpYes X180.here hx hby d7_8 (flt hf194).2.1 (pc' := 25) (by decide) (by decide) ?_
      exact kt
    obtain ⟨fs, hr, hu, hd, hW, hme⟩ := X180.leave (v := none) (fun _ => rfl)
    refine ⟨_, _, pre195 _ ?_, hu, hd, _, _, rfl, ?_, ⟨_, rfl⟩, hW, hme.mono (by decide) (by decide)⟩
    · show SQ p e below m T180 25 #[rv a1, rv a2, iv (Int32.ofNat no), iv 4, iv (((((Int32.ofNat no) + (1 : Int32)) + (1 : Int32)) + (1 : Int32)) + (1 : Int32))] [] _
      exact X180.returnOut hx Bd.returns (hb hby d7_25) hr
    · show Qrm7 Z a1 a2 (Int32.ofNat no) (Int32.ofNat 4) s1 ln hi ar cs cz fm kc ts no 4 h0 n0 _ T180.heap _
      exact ⟨rfl, N180, K180, E_a1_180, Fl_a1_180, Fb_a1_180, Fh_a1_180, Fa_a1_180⟩
def Qrm8 (Z : State) (a1 : Addr) (ln : Int32) (h0 : Heap) (n0 : Nat) (v : Option Value) (h : Heap) (L : List Loc) : Prop := v = some (.int ln) ∧ Fr n0 L ∧ h = h0
theorem d8_0 : decode kb44 0 = .ok (.aload_n 0, 1) := by decide +kernel
theorem d8_1 : decode kb44 1 = .ok (.getfield 7, 3) := by decide +kernel
theorem d8_4 : decode kb44 4 = .ok (.ireturn, 1) := by decide +kernel
theorem ef_8 (m : MethodId) (x0 : Addr) : entryFrame m #[(.ref x0)] 1 = mkF m 0 #[rv x0] [] := by first | (simp [entryFrame, mkF, argsToLocals, Value.category]; done) | rfl
theorem rm8 (l : Launch) (Z : State) (a0 : Array Value) (hw : HW a0 Z) (ws : List Jvm.Cond) (a1 : Addr) (ln : Int32) (h0 : Heap) (n0 : Nat) (Z0 : n0 ≤ h0.size) (Fl_a1 : fld2 Z h0 a1 (.int ln)) :
    MF l Z h0 mn25 kb44 1 (some .int) ws ro0 #[(.ref a1)] (Qrm8 Z a1 ln h0 n0) := by
  refine own_go "com/example/pourcode/pourcode/input/LineCounter" rfl #[rv a1] (fun m => ef_8 m a1) (plainFor_of_name pn_5) ?_
  intro p e s m below meth c s₁ S0 Bd hx hby hml hown hZ X0 e0 pre0
  have N0 := Fr.nil n0
  have pre1 : PQ p e below m S0 s₁ 1 #[rv a1] [(.ref a1)] := by
    intro t kt
    refine pre0 t ?_
    refine ow_aloadN X0.here hx hby d8_0 rfl rfl ?_
    exact kt
  obtain ⟨T2, X2, e2, pre2⟩ := ow_getF pre1 X0 hx hZ hown (host := "") (Or.inl (wi hw 26 rfl)) Via.refl e0 Fl_a1 hby d8_1
  obtain ⟨fs, hr, hu, hd, hW, hme⟩ := X2.leave (v := some (.int ln)) (fun h => by rw [Bd.returns] at h; cases h)
  refine ⟨_, _, pre2 _ ?_, hu, hd, _, _, rfl, ?_, ⟨_, rfl⟩, hW, hme.mono (by decide) (by decide)⟩
  · show SQ p e below m T2 4 #[rv a1] [(.int ln)] _
    exact retI X2 hx Bd.returns (hb hby d8_4) hr
  · show Qrm8 Z a1 ln h0 n0 _ T2.heap _
    rw [e2]
    exact ⟨rfl, N0, rfl⟩
def Qrm2 (Z : State) (p1 : Int32) (a2 : Addr) (p3 p4 : Int32) (p5 p6 p7 : Int32) (kc : ClassId) (ts : List Int32) (no nl : Nat) (h0 : Heap) (n0 : Nat) (v : Option Value) (h : Heap) (L : List Loc) : Prop := v = some (.int (own_pc p5 p6 p7 (own_seg ts no nl) p1)) ∧ Fr n0 L ∧ h = h0
theorem d2_0 : decode kb1 0 = .ok (.iload_n 0, 1) := by decide +kernel
theorem d2_1 : decode kb1 1 = .ok (.istore 7, 2) := by decide +kernel
theorem d2_3 : decode kb1 3 = .ok (.iload_n 3, 1) := by decide +kernel
theorem d2_4 : decode kb1 4 = .ok (.ifCond .le 19, 3) := by decide +kernel
theorem d2_7 : decode kb1 7 = .ok (.iload 7, 2) := by decide +kernel
theorem d2_9 : decode kb1 9 = .ok (.aload_n 1, 1) := by decide +kernel
theorem d2_10 : decode kb1 10 = .ok (.iload_n 2, 1) := by decide +kernel
theorem d2_11 : decode kb1 11 = .ok (.caload, 1) := by decide +kernel
theorem d2_12 : decode kb1 12 = .ok (.iload 4, 2) := by decide +kernel
theorem d2_14 : decode kb1 14 = .ok (.iload 5, 2) := by decide +kernel
theorem d2_16 : decode kb1 16 = .ok (.iload 6, 2) := by decide +kernel
theorem d2_18 : decode kb1 18 = .ok (.invokestatic 8, 3) := by decide +kernel
theorem d2_21 : decode kb1 21 = .ok (.istore 7, 2) := by decide +kernel
theorem d2_23 : decode kb1 23 = .ok (.iload_n 3, 1) := by decide +kernel
theorem d2_24 : decode kb1 24 = .ok (.iconst 1, 1) := by decide +kernel
theorem d2_25 : decode kb1 25 = .ok (.if_icmp .le 21, 3) := by decide +kernel
theorem d2_28 : decode kb1 28 = .ok (.iload 7, 2) := by decide +kernel
theorem d2_30 : decode kb1 30 = .ok (.aload_n 1, 1) := by decide +kernel
theorem d2_31 : decode kb1 31 = .ok (.iload_n 2, 1) := by decide +kernel
theorem d2_32 : decode kb1 32 = .ok (.iconst 1, 1) := by decide +kernel
theorem d2_33 : decode kb1 33 = .ok (.iadd, 1) := by decide +kernel
theorem d2_34 : decode kb1 34 = .ok (.caload, 1) := by decide +kernel
theorem d2_35 : decode kb1 35 = .ok (.iload 4, 2) := by decide +kernel
theorem d2_37 : decode kb1 37 = .ok (.iload 5, 2) := by decide +kernel
theorem d2_39 : decode kb1 39 = .ok (.iload 6, 2) := by decide +kernel
theorem d2_41 : decode kb1 41 = .ok (.invokestatic 8, 3) := by decide +kernel
theorem d2_44 : decode kb1 44 = .ok (.istore 7, 2) := by decide +kernel
theorem d2_46 : decode kb1 46 = .ok (.iload_n 3, 1) := by decide +kernel
theorem d2_47 : decode kb1 47 = .ok (.iconst 2, 1) := by decide +kernel
theorem d2_48 : decode kb1 48 = .ok (.if_icmp .le 21, 3) := by decide +kernel
theorem d2_51 : decode kb1 51 = .ok (.iload 7, 2) := by decide +kernel
theorem d2_53 : decode kb1 53 = .ok (.aload_n 1, 1) := by decide +kernel
theorem d2_54 : decode kb1 54 = .ok (.iload_n 2, 1) := by decide +kernel
theorem d2_55 : decode kb1 55 = .ok (.iconst 2, 1) := by decide +kernel
theorem d2_56 : decode kb1 56 = .ok (.iadd, 1) := by decide +kernel
theorem d2_57 : decode kb1 57 = .ok (.caload, 1) := by decide +kernel
theorem d2_58 : decode kb1 58 = .ok (.iload 4, 2) := by decide +kernel
theorem d2_60 : decode kb1 60 = .ok (.iload 5, 2) := by decide +kernel
theorem d2_62 : decode kb1 62 = .ok (.iload 6, 2) := by decide +kernel
theorem d2_64 : decode kb1 64 = .ok (.invokestatic 8, 3) := by decide +kernel
theorem d2_67 : decode kb1 67 = .ok (.istore 7, 2) := by decide +kernel
theorem d2_69 : decode kb1 69 = .ok (.iload_n 3, 1) := by decide +kernel
theorem d2_70 : decode kb1 70 = .ok (.iconst 3, 1) := by decide +kernel
theorem d2_71 : decode kb1 71 = .ok (.if_icmp .le 21, 3) := by decide +kernel
theorem d2_74 : decode kb1 74 = .ok (.iload 7, 2) := by decide +kernel
theorem d2_76 : decode kb1 76 = .ok (.aload_n 1, 1) := by decide +kernel
theorem d2_77 : decode kb1 77 = .ok (.iload_n 2, 1) := by decide +kernel
theorem d2_78 : decode kb1 78 = .ok (.iconst 3, 1) := by decide +kernel
theorem d2_79 : decode kb1 79 = .ok (.iadd, 1) := by decide +kernel
theorem d2_80 : decode kb1 80 = .ok (.caload, 1) := by decide +kernel
theorem d2_81 : decode kb1 81 = .ok (.iload 4, 2) := by decide +kernel
theorem d2_83 : decode kb1 83 = .ok (.iload 5, 2) := by decide +kernel
theorem d2_85 : decode kb1 85 = .ok (.iload 6, 2) := by decide +kernel
theorem d2_87 : decode kb1 87 = .ok (.invokestatic 8, 3) := by decide +kernel
theorem d2_90 : decode kb1 90 = .ok (.istore 7, 2) := by decide +kernel
theorem d2_92 : decode kb1 92 = .ok (.iload 7, 2) := by decide +kernel
theorem d2_94 : decode kb1 94 = .ok (.ireturn, 1) := by decide +kernel
theorem ef_2 (m : MethodId) (x0 : Int32) (x1 : Addr) (x2 x3 : Int32) (x4 x5 x6 : Int32) : entryFrame m #[(.int x0), (.ref x1), (.int x2), (.int x3), (.int x4), (.int x5), (.int x6)] 8 = mkF m 0 #[iv x0, rv x1, iv x2, iv x3, iv x4, iv x5, iv x6, un] [] := by first | (simp [entryFrame, mkF, argsToLocals, Value.category]; done) | rfl
theorem rm2 (l : Launch) (Z : State) (a0 : Array Value) (hw : HW a0 Z) (ws : List Jvm.Cond) (p1 : Int32) (a2 : Addr) (p3 p4 : Int32) (p5 p6 p7 : Int32) (kc : ClassId) (ts : List Int32) (no nl : Nat) (h0 : Heap) (n0 : Nat) (Z0 : n0 ≤ h0.size) (V_a2 : Arv Z h0 a2 kc .char (4 : Int32) (ts.map Value.int) (.int 0)) (hp3 : p3 = Int32.ofNat no) (hp4 : p4 = Int32.ofNat nl) (hon : no + nl ≤ 4) (hlt : ts.length = 4) (hts : ∀ c ∈ ts, ¬ c < 0 ∧ ¬ (65535 : Int32) < c) :
    MF l Z h0 mn39 kb1 8 (some .int) ws ({ frames := 1, cells := 0, slots := 0, locals := 22 } : Room) #[(.int p1), (.ref a2), (.int p3), (.int p4), (.int p5), (.int p6), (.int p7)] (Qrm2 Z p1 a2 p3 p4 p5 p6 p7 kc ts no nl h0 n0) := by
  refine own_go "com/example/pourcode/pourcode/input/LineCounterCountPinLaw" rfl #[iv p1, rv a2, iv p3, iv p4, iv p5, iv p6, iv p7, un] (fun m => ef_2 m p1 a2 p3 p4 p5 p6 p7) (plainFor_of_name pn_0) ?_
  intro p e s m below meth c s₁ S0 Bd hx hby hml hown hZ X0 e0 pre0
  have N0 := Fr.nil n0
  subst hp3 hp4
  obtain rfl | rfl | rfl | rfl | rfl : nl = 0 ∨ nl = 1 ∨ nl = 2 ∨ nl = 3 ∨ nl = 4 := by omega
  · skip
    have pre1 : PQ p e below m S0 s₁ 0 #[iv p1, rv a2, iv (Int32.ofNat no), iv 0, iv p5, iv p6, iv p7, un] [] := fun t kt => pre0 t ((show Steps p.tables e below _ t from kt))
    have pre2 : PQ p e below m S0 s₁ 94 #[iv p1, rv a2, iv (Int32.ofNat no), iv 0, iv p5, iv p6, iv p7, iv p1] [(.int p1)] := by
      intro t kt
      refine pre1 t ?_
      refine ow_iloadN X0.here hx hby d2_0 rfl ?_
      refine ow_istore X0.here hx hby d2_1 (l' := #[iv p1, rv a2, iv (Int32.ofNat no), iv 0, iv p5, iv p6, iv p7, iv p1]) rfl ?_
      refine ow_iloadN X0.here hx hby d2_3 rfl ?_
      refine ow_ifYes X0.here hx hby d2_4 ((if0 _ _).trans (flt (by decide)).2.2.2) (pc' := 23) (by decide) (by decide) ?_
      refine ow_iloadN X0.here hx hby d2_23 rfl ?_
      refine ow_iconst X0.here hx hby d2_24 (v := 1) rfl ?_
      refine ow_icmpYes X0.here hx hby d2_25 (flt (by decide)).2.2.2 (pc' := 46) (by decide) (by decide) ?_
      refine ow_iloadN X0.here hx hby d2_46 rfl ?_
      refine ow_iconst X0.here hx hby d2_47 (v := 2) rfl ?_
      refine ow_icmpYes X0.here hx hby d2_48 (flt (by decide)).2.2.2 (pc' := 69) (by decide) (by decide) ?_
      refine ow_iloadN X0.here hx hby d2_69 rfl ?_
      refine ow_iconst X0.here hx hby d2_70 (v := 3) rfl ?_
      refine ow_icmpYes X0.here hx hby d2_71 (flt (by decide)).2.2.2 (pc' := 92) (by decide) (by decide) ?_
      refine ow_iload X0.here hx hby d2_92 rfl ?_
      exact kt
    have hres : p1 = (own_pc p5 p6 p7 (own_seg ts no 0) p1) := rfl
    obtain ⟨fs, hr, hu, hd, hW, hme⟩ := X0.leave (v := some (.int p1)) (fun h => by rw [Bd.returns] at h; cases h)
    refine ⟨_, _, pre2 _ ?_, hu, hd, _, _, rfl, ?_, ⟨_, rfl⟩, hW, hme.mono (by decide) (by decide)⟩
    · show SQ p e below m s₁ 94 #[iv p1, rv a2, iv (Int32.ofNat no), iv 0, iv p5, iv p6, iv p7, iv p1] [(.int p1)] _
      exact retI X0 hx Bd.returns (hb hby d2_94) hr
    · show Qrm2 Z p1 a2 (Int32.ofNat no) (Int32.ofNat 0) p5 p6 p7 kc ts no 0 h0 n0 _ s₁.heap _
      rw [e0]
      exact ⟨congrArg some (congrArg Value.int hres), N0, rfl⟩
  · skip
    have pre3 : PQ p e below m S0 s₁ 0 #[iv p1, rv a2, iv (Int32.ofNat no), iv 1, iv p5, iv p6, iv p7, un] [] := fun t kt => pre0 t ((show Steps p.tables e below _ t from kt))
    have B5 : ¬ (Int32.ofNat no) < (0 : Int32) ∧ (Int32.ofNat no) < (4 : Int32) ∧ (Int32.ofNat no).toNatClampNeg = no + 0 := by
      have q : ∀ k : Fin 4, ¬ (Int32.ofNat k.val) < (0 : Int32) ∧ (Int32.ofNat k.val) < (4 : Int32) ∧ (Int32.ofNat k.val).toNatClampNeg = k.val + 0 := by decide +kernel
      exact q ⟨no, by omega⟩
    have pre6 : PQ p e below m S0 s₁ 18 #[iv p1, rv a2, iv (Int32.ofNat no), iv 1, iv p5, iv p6, iv p7, iv p1] [(.int p7), (.int p6), (.int p5), (.int (ts.getD (no + 0) 0)), (.int p1)] := by
      intro t kt
      refine pre3 t ?_
      refine ow_iloadN X0.here hx hby d2_0 rfl ?_
      refine ow_istore X0.here hx hby d2_1 (l' := #[iv p1, rv a2, iv (Int32.ofNat no), iv 1, iv p5, iv p6, iv p7, iv p1]) rfl ?_
      refine ow_iloadN X0.here hx hby d2_3 rfl ?_
      refine ow_ifNo X0.here hx hby d2_4 ((if0 _ _).trans (tlt (by decide)).2.2.2) ?_
      refine ow_iload X0.here hx hby d2_7 rfl ?_
      refine ow_aloadN X0.here hx hby d2_9 rfl rfl ?_
      refine ow_iloadN X0.here hx hby d2_10 rfl ?_
      obtain ⟨cl4, Ar4, -, S4, M4, H4, -⟩ := (id V_a2)
      have hin4 := inb_of (j := (Int32.ofNat no)) S4 ⟨B5.1, B5.2.1⟩
      refine X0.caload hx (j := (Int32.ofNat no)) (v := (.int (ts.getD (no + 0) 0))) (by rw [e0]; exact Ar4.1) (State.isArrayOf_alike hZ.alike Ar4.2.1) Ar4.2.2 hin4 (H4.at hin4 (own_tv B5.2.2 (by omega))) (g := (mkF m 11 #[iv p1, rv a2, iv (Int32.ofNat no), iv 1, iv p5, iv p6, iv p7, iv p1] [(.int (Int32.ofNat no)), (.ref a2), (.int p1)])) rfl rfl (hb hby d2_11) _ ?_
      show SQ p e below m s₁ 12 #[iv p1, rv a2, iv (Int32.ofNat no), iv 1, iv p5, iv p6, iv p7, iv p1] [(.int (ts.getD (no + 0) 0)), (.int p1)] _
      refine ow_iload X0.here hx hby d2_12 rfl ?_
      refine ow_iload X0.here hx hby d2_14 rfl ?_
      refine ow_iload X0.here hx hby d2_16 rfl ?_
      exact kt
    obtain ⟨_, _, ⟨T7, L7, k7, n7⟩, -, X7, ⟨Lc7, hQ7, l7, y7, z7⟩, st7⟩ := Jvm.LawKit.callS X0 hx (y := mn4) hown (mw hZ hw 71 rfl) (mw hZ hw 72 rfl) (mw hZ hw 2 rfl) (mw hZ hw 73 rfl) (by decide) (backOf (W := 0) (rm13 l Z a0 hw [] p1 (ts.getD (no + 0) 0) p5 p6 p7 h0 n0) hZ (wi hw 73 rfl) (wi hw 2 rfl) (by decide) (by decide)) (g := (mkF m 18 #[iv p1, rv a2, iv (Int32.ofNat no), iv 1, iv p5, iv p6, iv p7, iv p1] [(.int p7), (.int p6), (.int p5), (.int (ts.getD (no + 0) 0)), (.int p1)])) rfl (by rw [hml]; rfl) (argsL := [(.int p1), (.int (ts.getD (no + 0) 0)), (.int p5), (.int p6), (.int p7)]) (rest := []) (lenOf pd_26 rfl) rfl (by show 2 * 0 + _ ≤ _; exact Nat.le_of_eq rfl) (hb hby d2_18) (fun _ _ => ⟨rfl, e0, (Nat.zero_le _), (Nat.zero_le _)⟩)
    dsimp only [Pt.U, Pt.locs, Pt.cells, Pt.slots] at X7 l7 y7 z7 st7 hQ7
    subst l7 y7 z7
    obtain ⟨rfl, N7q, e7⟩ := hQ7
    have N7 := Fr.app N0 N7q
    have pre7 : PQ p e below m S0 T7 21 #[iv p1, rv a2, iv (Int32.ofNat no), iv 1, iv p5, iv p6, iv p7, iv p1] [(.int (own_f13 p1 (ts.getD (no + 0) 0) p5 p6 p7))] := fun t kt => pre6 t (st7 _ kt)
    have pre8 : PQ p e below m S0 T7 94 #[iv p1, rv a2, iv (Int32.ofNat no), iv 1, iv p5, iv p6, iv p7, iv (own_f13 p1 (ts.getD (no + 0) 0) p5 p6 p7)] [(.int (own_f13 p1 (ts.getD (no + 0) 0) p5 p6 p7))] := by
      intro t kt
      refine pre7 t ?_
      refine ow_istore X7.here hx hby d2_21 (l' := #[iv p1, rv a2, iv (Int32.ofNat no), iv 1, iv p5, iv p6, iv p7, iv (own_f13 p1 (ts.getD (no + 0) 0) p5 p6 p7)]) rfl ?_
      refine ow_iloadN X7.here hx hby d2_23 rfl ?_
      refine ow_iconst X7.here hx hby d2_24 (v := 1) rfl ?_
      refine ow_icmpYes X7.here hx hby d2_25 (flt (by decide)).2.2.2 (pc' := 46) (by decide) (by decide) ?_
      refine ow_iloadN X7.here hx hby d2_46 rfl ?_
      refine ow_iconst X7.here hx hby d2_47 (v := 2) rfl ?_
      refine ow_icmpYes X7.here hx hby d2_48 (flt (by decide)).2.2.2 (pc' := 69) (by decide) (by decide) ?_
      refine ow_iloadN X7.here hx hby d2_69 rfl ?_
      refine ow_iconst X7.here hx hby d2_70 (v := 3) rfl ?_
      refine ow_icmpYes X7.here hx hby d2_71 (flt (by decide)).2.2.2 (pc' := 92) (by decide) (by decide) ?_
      refine ow_iload X7.here hx hby d2_92 rfl ?_
      exact kt
    have hres : (own_f13 p1 (ts.getD (no + 0) 0) p5 p6 p7) = (own_pc p5 p6 p7 (own_seg ts no 1) p1) := rfl
    obtain ⟨fs, hr, hu, hd, hW, hme⟩ := X7.leave (v := some (.int (own_f13 p1 (ts.getD (no + 0) 0) p5 p6 p7))) (fun h => by rw [Bd.returns] at h; cases h)
    refine ⟨_, _, pre8 _ ?_, hu, hd, _, _, rfl, ?_, ⟨_, rfl⟩, hW, hme.mono (by decide) (by decide)⟩
    · show SQ p e below m T7 94 #[iv p1, rv a2, iv (Int32.ofNat no), iv 1, iv p5, iv p6, iv p7, iv (own_f13 p1 (ts.getD (no + 0) 0) p5 p6 p7)] [(.int (own_f13 p1 (ts.getD (no + 0) 0) p5 p6 p7))] _
      exact retI X7 hx Bd.returns (hb hby d2_94) hr
    · show Qrm2 Z p1 a2 (Int32.ofNat no) (Int32.ofNat 1) p5 p6 p7 kc ts no 1 h0 n0 _ T7.heap _
      rw [e7]
      exact ⟨congrArg some (congrArg Value.int hres), N7, rfl⟩
  · skip
    have pre9 : PQ p e below m S0 s₁ 0 #[iv p1, rv a2, iv (Int32.ofNat no), iv 2, iv p5, iv p6, iv p7, un] [] := fun t kt => pre0 t ((show Steps p.tables e below _ t from kt))
    have B11 : ¬ (Int32.ofNat no) < (0 : Int32) ∧ (Int32.ofNat no) < (4 : Int32) ∧ (Int32.ofNat no).toNatClampNeg = no + 0 := by
      have q : ∀ k : Fin 4, ¬ (Int32.ofNat k.val) < (0 : Int32) ∧ (Int32.ofNat k.val) < (4 : Int32) ∧ (Int32.ofNat k.val).toNatClampNeg = k.val + 0 := by decide +kernel
      exact q ⟨no, by omega⟩
    have pre12 : PQ p e below m S0 s₁ 18 #[iv p1, rv a2, iv (Int32.ofNat no), iv 2, iv p5, iv p6, iv p7, iv p1] [(.int p7), (.int p6), (.int p5), (.int (ts.getD (no + 0) 0)), (.int p1)] := by
      intro t kt
      refine pre9 t ?_
      refine ow_iloadN X0.here hx hby d2_0 rfl ?_
      refine ow_istore X0.here hx hby d2_1 (l' := #[iv p1, rv a2, iv (Int32.ofNat no), iv 2, iv p5, iv p6, iv p7, iv p1]) rfl ?_
      refine ow_iloadN X0.here hx hby d2_3 rfl ?_
      refine ow_ifNo X0.here hx hby d2_4 ((if0 _ _).trans (tlt (by decide)).2.2.2) ?_
      refine ow_iload X0.here hx hby d2_7 rfl ?_
      refine ow_aloadN X0.here hx hby d2_9 rfl rfl ?_
      refine ow_iloadN X0.here hx hby d2_10 rfl ?_
      obtain ⟨cl10, Ar10, -, S10, M10, H10, -⟩ := (id V_a2)
      have hin10 := inb_of (j := (Int32.ofNat no)) S10 ⟨B11.1, B11.2.1⟩
      refine X0.caload hx (j := (Int32.ofNat no)) (v := (.int (ts.getD (no + 0) 0))) (by rw [e0]; exact Ar10.1) (State.isArrayOf_alike hZ.alike Ar10.2.1) Ar10.2.2 hin10 (H10.at hin10 (own_tv B11.2.2 (by omega))) (g := (mkF m 11 #[iv p1, rv a2, iv (Int32.ofNat no), iv 2, iv p5, iv p6, iv p7, iv p1] [(.int (Int32.ofNat no)), (.ref a2), (.int p1)])) rfl rfl (hb hby d2_11) _ ?_
      show SQ p e below m s₁ 12 #[iv p1, rv a2, iv (Int32.ofNat no), iv 2, iv p5, iv p6, iv p7, iv p1] [(.int (ts.getD (no + 0) 0)), (.int p1)] _
      refine ow_iload X0.here hx hby d2_12 rfl ?_
      refine ow_iload X0.here hx hby d2_14 rfl ?_
      refine ow_iload X0.here hx hby d2_16 rfl ?_
      exact kt
    obtain ⟨_, _, ⟨T13, L13, k13, n13⟩, -, X13, ⟨Lc13, hQ13, l13, y13, z13⟩, st13⟩ := Jvm.LawKit.callS X0 hx (y := mn4) hown (mw hZ hw 71 rfl) (mw hZ hw 72 rfl) (mw hZ hw 2 rfl) (mw hZ hw 73 rfl) (by decide) (backOf (W := 0) (rm13 l Z a0 hw [] p1 (ts.getD (no + 0) 0) p5 p6 p7 h0 n0) hZ (wi hw 73 rfl) (wi hw 2 rfl) (by decide) (by decide)) (g := (mkF m 18 #[iv p1, rv a2, iv (Int32.ofNat no), iv 2, iv p5, iv p6, iv p7, iv p1] [(.int p7), (.int p6), (.int p5), (.int (ts.getD (no + 0) 0)), (.int p1)])) rfl (by rw [hml]; rfl) (argsL := [(.int p1), (.int (ts.getD (no + 0) 0)), (.int p5), (.int p6), (.int p7)]) (rest := []) (lenOf pd_26 rfl) rfl (by show 2 * 0 + _ ≤ _; exact Nat.le_of_eq rfl) (hb hby d2_18) (fun _ _ => ⟨rfl, e0, (Nat.zero_le _), (Nat.zero_le _)⟩)
    dsimp only [Pt.U, Pt.locs, Pt.cells, Pt.slots] at X13 l13 y13 z13 st13 hQ13
    subst l13 y13 z13
    obtain ⟨rfl, N13q, e13⟩ := hQ13
    have N13 := Fr.app N0 N13q
    have pre13 : PQ p e below m S0 T13 21 #[iv p1, rv a2, iv (Int32.ofNat no), iv 2, iv p5, iv p6, iv p7, iv p1] [(.int (own_f13 p1 (ts.getD (no + 0) 0) p5 p6 p7))] := fun t kt => pre12 t (st13 _ kt)
    have B15 : ¬ ((Int32.ofNat no) + (1 : Int32)) < (0 : Int32) ∧ ((Int32.ofNat no) + (1 : Int32)) < (4 : Int32) ∧ ((Int32.ofNat no) + (1 : Int32)).toNatClampNeg = no + 1 := by
      have q : ∀ k : Fin 3, ¬ ((Int32.ofNat k.val) + (1 : Int32)) < (0 : Int32) ∧ ((Int32.ofNat k.val) + (1 : Int32)) < (4 : Int32) ∧ ((Int32.ofNat k.val) + (1 : Int32)).toNatClampNeg = k.val + 1 := by decide +kernel
      exact q ⟨no, by omega⟩
    have pre16 : PQ p e below m S0 T13 41 #[iv p1, rv a2, iv (Int32.ofNat no), iv 2, iv p5, iv p6, iv p7, iv (own_f13 p1 (ts.getD (no + 0) 0) p5 p6 p7)] [(.int p7), (.int p6), (.int p5), (.int (ts.getD (no + 1) 0)), (.int (own_f13 p1 (ts.getD (no + 0) 0) p5 p6 p7))] := by
      intro t kt
      refine pre13 t ?_
      refine ow_istore X13.here hx hby d2_21 (l' := #[iv p1, rv a2, iv (Int32.ofNat no), iv 2, iv p5, iv p6, iv p7, iv (own_f13 p1 (ts.getD (no + 0) 0) p5 p6 p7)]) rfl ?_
      refine ow_iloadN X13.here hx hby d2_23 rfl ?_
      refine ow_iconst X13.here hx hby d2_24 (v := 1) rfl ?_
      refine ow_icmpNo X13.here hx hby d2_25 (tlt (by decide)).2.2.2 ?_
      refine ow_iload X13.here hx hby d2_28 rfl ?_
      refine ow_aloadN X13.here hx hby d2_30 rfl rfl ?_
      refine ow_iloadN X13.here hx hby d2_31 rfl ?_
      refine ow_iconst X13.here hx hby d2_32 (v := 1) rfl ?_
      refine ow_iadd X13.here hx hby d2_33 ?_
      obtain ⟨cl14, Ar14, -, S14, M14, H14, -⟩ := (id V_a2)
      have hin14 := inb_of (j := ((Int32.ofNat no) + (1 : Int32))) S14 ⟨B15.1, B15.2.1⟩
      refine X13.caload hx (j := ((Int32.ofNat no) + (1 : Int32))) (v := (.int (ts.getD (no + 1) 0))) (by rw [e13]; exact Ar14.1) (State.isArrayOf_alike hZ.alike Ar14.2.1) Ar14.2.2 hin14 (H14.at hin14 (own_tv B15.2.2 (by omega))) (g := (mkF m 34 #[iv p1, rv a2, iv (Int32.ofNat no), iv 2, iv p5, iv p6, iv p7, iv (own_f13 p1 (ts.getD (no + 0) 0) p5 p6 p7)] [(.int ((Int32.ofNat no) + (1 : Int32))), (.ref a2), (.int (own_f13 p1 (ts.getD (no + 0) 0) p5 p6 p7))])) rfl rfl (hb hby d2_34) _ ?_
      show SQ p e below m T13 35 #[iv p1, rv a2, iv (Int32.ofNat no), iv 2, iv p5, iv p6, iv p7, iv (own_f13 p1 (ts.getD (no + 0) 0) p5 p6 p7)] [(.int (ts.getD (no + 1) 0)), (.int (own_f13 p1 (ts.getD (no + 0) 0) p5 p6 p7))] _
      refine ow_iload X13.here hx hby d2_35 rfl ?_
      refine ow_iload X13.here hx hby d2_37 rfl ?_
      refine ow_iload X13.here hx hby d2_39 rfl ?_
      exact kt
    obtain ⟨_, _, ⟨T17, L17, k17, n17⟩, -, X17, ⟨Lc17, hQ17, l17, y17, z17⟩, st17⟩ := Jvm.LawKit.callS X13 hx (y := mn4) hown (mw hZ hw 71 rfl) (mw hZ hw 72 rfl) (mw hZ hw 2 rfl) (mw hZ hw 73 rfl) (by decide) (backOf (W := 0) (rm13 l Z a0 hw [] (own_f13 p1 (ts.getD (no + 0) 0) p5 p6 p7) (ts.getD (no + 1) 0) p5 p6 p7 h0 n0) hZ (wi hw 73 rfl) (wi hw 2 rfl) (by decide) (by decide)) (g := (mkF m 41 #[iv p1, rv a2, iv (Int32.ofNat no), iv 2, iv p5, iv p6, iv p7, iv (own_f13 p1 (ts.getD (no + 0) 0) p5 p6 p7)] [(.int p7), (.int p6), (.int p5), (.int (ts.getD (no + 1) 0)), (.int (own_f13 p1 (ts.getD (no + 0) 0) p5 p6 p7))])) rfl (by rw [hml]; rfl) (argsL := [(.int (own_f13 p1 (ts.getD (no + 0) 0) p5 p6 p7)), (.int (ts.getD (no + 1) 0)), (.int p5), (.int p6), (.int p7)]) (rest := []) (lenOf pd_26 rfl) rfl (by show 2 * 0 + _ ≤ _; exact Nat.le_of_eq rfl) (hb hby d2_41) (fun _ _ => ⟨rfl, e13, (Nat.zero_le _), (Nat.zero_le _)⟩)
    dsimp only [Pt.U, Pt.locs, Pt.cells, Pt.slots] at X17 l17 y17 z17 st17 hQ17
    subst l17 y17 z17
    obtain ⟨rfl, N17q, e17⟩ := hQ17
    have N17 := Fr.app N13 N17q
    have pre17 : PQ p e below m S0 T17 44 #[iv p1, rv a2, iv (Int32.ofNat no), iv 2, iv p5, iv p6, iv p7, iv (own_f13 p1 (ts.getD (no + 0) 0) p5 p6 p7)] [(.int (own_f13 (own_f13 p1 (ts.getD (no + 0) 0) p5 p6 p7) (ts.getD (no + 1) 0) p5 p6 p7))] := fun t kt => pre16 t (st17 _ kt)
    have pre18 : PQ p e below m S0 T17 94 #[iv p1, rv a2, iv (Int32.ofNat no), iv 2, iv p5, iv p6, iv p7, iv (own_f13 (own_f13 p1 (ts.getD (no + 0) 0) p5 p6 p7) (ts.getD (no + 1) 0) p5 p6 p7)] [(.int (own_f13 (own_f13 p1 (ts.getD (no + 0) 0) p5 p6 p7) (ts.getD (no + 1) 0) p5 p6 p7))] := by
      intro t kt
      refine pre17 t ?_
      refine ow_istore X17.here hx hby d2_44 (l' := #[iv p1, rv a2, iv (Int32.ofNat no), iv 2, iv p5, iv p6, iv p7, iv (own_f13 (own_f13 p1 (ts.getD (no + 0) 0) p5 p6 p7) (ts.getD (no + 1) 0) p5 p6 p7)]) rfl ?_
      refine ow_iloadN X17.here hx hby d2_46 rfl ?_
      refine ow_iconst X17.here hx hby d2_47 (v := 2) rfl ?_
      refine ow_icmpYes X17.here hx hby d2_48 (flt (by decide)).2.2.2 (pc' := 69) (by decide) (by decide) ?_
      refine ow_iloadN X17.here hx hby d2_69 rfl ?_
      refine ow_iconst X17.here hx hby d2_70 (v := 3) rfl ?_
      refine ow_icmpYes X17.here hx hby d2_71 (flt (by decide)).2.2.2 (pc' := 92) (by decide) (by decide) ?_
      refine ow_iload X17.here hx hby d2_92 rfl ?_
      exact kt
    have hres : (own_f13 (own_f13 p1 (ts.getD (no + 0) 0) p5 p6 p7) (ts.getD (no + 1) 0) p5 p6 p7) = (own_pc p5 p6 p7 (own_seg ts no 2) p1) := rfl
    obtain ⟨fs, hr, hu, hd, hW, hme⟩ := X17.leave (v := some (.int (own_f13 (own_f13 p1 (ts.getD (no + 0) 0) p5 p6 p7) (ts.getD (no + 1) 0) p5 p6 p7))) (fun h => by rw [Bd.returns] at h; cases h)
    refine ⟨_, _, pre18 _ ?_, hu, hd, _, _, rfl, ?_, ⟨_, rfl⟩, hW, hme.mono (by decide) (by decide)⟩
    · show SQ p e below m T17 94 #[iv p1, rv a2, iv (Int32.ofNat no), iv 2, iv p5, iv p6, iv p7, iv (own_f13 (own_f13 p1 (ts.getD (no + 0) 0) p5 p6 p7) (ts.getD (no + 1) 0) p5 p6 p7)] [(.int (own_f13 (own_f13 p1 (ts.getD (no + 0) 0) p5 p6 p7) (ts.getD (no + 1) 0) p5 p6 p7))] _
      exact retI X17 hx Bd.returns (hb hby d2_94) hr
    · show Qrm2 Z p1 a2 (Int32.ofNat no) (Int32.ofNat 2) p5 p6 p7 kc ts no 2 h0 n0 _ T17.heap _
      rw [e17]
      exact ⟨congrArg some (congrArg Value.int hres), N17, rfl⟩
  · skip
    have pre19 : PQ p e below m S0 s₁ 0 #[iv p1, rv a2, iv (Int32.ofNat no), iv 3, iv p5, iv p6, iv p7, un] [] := fun t kt => pre0 t ((show Steps p.tables e below _ t from kt))
    have B21 : ¬ (Int32.ofNat no) < (0 : Int32) ∧ (Int32.ofNat no) < (4 : Int32) ∧ (Int32.ofNat no).toNatClampNeg = no + 0 := by
      have q : ∀ k : Fin 4, ¬ (Int32.ofNat k.val) < (0 : Int32) ∧ (Int32.ofNat k.val) < (4 : Int32) ∧ (Int32.ofNat k.val).toNatClampNeg = k.val + 0 := by decide +kernel
      exact q ⟨no, by omega⟩
    have pre22 : PQ p e below m S0 s₁ 18 #[iv p1, rv a2, iv (Int32.ofNat no), iv 3, iv p5, iv p6, iv p7, iv p1] [(.int p7), (.int p6), (.int p5), (.int (ts.getD (no + 0) 0)), (.int p1)] := by
      intro t kt
      refine pre19 t ?_
      refine ow_iloadN X0.here hx hby d2_0 rfl ?_
      refine ow_istore X0.here hx hby d2_1 (l' := #[iv p1, rv a2, iv (Int32.ofNat no), iv 3, iv p5, iv p6, iv p7, iv p1]) rfl ?_
      refine ow_iloadN X0.here hx hby d2_3 rfl ?_
      refine ow_ifNo X0.here hx hby d2_4 ((if0 _ _).trans (tlt (by decide)).2.2.2) ?_
      refine ow_iload X0.here hx hby d2_7 rfl ?_
      refine ow_aloadN X0.here hx hby d2_9 rfl rfl ?_
      refine ow_iloadN X0.here hx hby d2_10 rfl ?_
      obtain ⟨cl20, Ar20, -, S20, M20, H20, -⟩ := (id V_a2)
      have hin20 := inb_of (j := (Int32.ofNat no)) S20 ⟨B21.1, B21.2.1⟩
      refine X0.caload hx (j := (Int32.ofNat no)) (v := (.int (ts.getD (no + 0) 0))) (by rw [e0]; exact Ar20.1) (State.isArrayOf_alike hZ.alike Ar20.2.1) Ar20.2.2 hin20 (H20.at hin20 (own_tv B21.2.2 (by omega))) (g := (mkF m 11 #[iv p1, rv a2, iv (Int32.ofNat no), iv 3, iv p5, iv p6, iv p7, iv p1] [(.int (Int32.ofNat no)), (.ref a2), (.int p1)])) rfl rfl (hb hby d2_11) _ ?_
      show SQ p e below m s₁ 12 #[iv p1, rv a2, iv (Int32.ofNat no), iv 3, iv p5, iv p6, iv p7, iv p1] [(.int (ts.getD (no + 0) 0)), (.int p1)] _
      refine ow_iload X0.here hx hby d2_12 rfl ?_
      refine ow_iload X0.here hx hby d2_14 rfl ?_
      refine ow_iload X0.here hx hby d2_16 rfl ?_
      exact kt
    obtain ⟨_, _, ⟨T23, L23, k23, n23⟩, -, X23, ⟨Lc23, hQ23, l23, y23, z23⟩, st23⟩ := Jvm.LawKit.callS X0 hx (y := mn4) hown (mw hZ hw 71 rfl) (mw hZ hw 72 rfl) (mw hZ hw 2 rfl) (mw hZ hw 73 rfl) (by decide) (backOf (W := 0) (rm13 l Z a0 hw [] p1 (ts.getD (no + 0) 0) p5 p6 p7 h0 n0) hZ (wi hw 73 rfl) (wi hw 2 rfl) (by decide) (by decide)) (g := (mkF m 18 #[iv p1, rv a2, iv (Int32.ofNat no), iv 3, iv p5, iv p6, iv p7, iv p1] [(.int p7), (.int p6), (.int p5), (.int (ts.getD (no + 0) 0)), (.int p1)])) rfl (by rw [hml]; rfl) (argsL := [(.int p1), (.int (ts.getD (no + 0) 0)), (.int p5), (.int p6), (.int p7)]) (rest := []) (lenOf pd_26 rfl) rfl (by show 2 * 0 + _ ≤ _; exact Nat.le_of_eq rfl) (hb hby d2_18) (fun _ _ => ⟨rfl, e0, (Nat.zero_le _), (Nat.zero_le _)⟩)
    dsimp only [Pt.U, Pt.locs, Pt.cells, Pt.slots] at X23 l23 y23 z23 st23 hQ23
    subst l23 y23 z23
    obtain ⟨rfl, N23q, e23⟩ := hQ23
    have N23 := Fr.app N0 N23q
    have pre23 : PQ p e below m S0 T23 21 #[iv p1, rv a2, iv (Int32.ofNat no), iv 3, iv p5, iv p6, iv p7, iv p1] [(.int (own_f13 p1 (ts.getD (no + 0) 0) p5 p6 p7))] := fun t kt => pre22 t (st23 _ kt)
    have B25 : ¬ ((Int32.ofNat no) + (1 : Int32)) < (0 : Int32) ∧ ((Int32.ofNat no) + (1 : Int32)) < (4 : Int32) ∧ ((Int32.ofNat no) + (1 : Int32)).toNatClampNeg = no + 1 := by
      have q : ∀ k : Fin 3, ¬ ((Int32.ofNat k.val) + (1 : Int32)) < (0 : Int32) ∧ ((Int32.ofNat k.val) + (1 : Int32)) < (4 : Int32) ∧ ((Int32.ofNat k.val) + (1 : Int32)).toNatClampNeg = k.val + 1 := by decide +kernel
      exact q ⟨no, by omega⟩
    have pre26 : PQ p e below m S0 T23 41 #[iv p1, rv a2, iv (Int32.ofNat no), iv 3, iv p5, iv p6, iv p7, iv (own_f13 p1 (ts.getD (no + 0) 0) p5 p6 p7)] [(.int p7), (.int p6), (.int p5), (.int (ts.getD (no + 1) 0)), (.int (own_f13 p1 (ts.getD (no + 0) 0) p5 p6 p7))] := by
      intro t kt
      refine pre23 t ?_
      refine ow_istore X23.here hx hby d2_21 (l' := #[iv p1, rv a2, iv (Int32.ofNat no), iv 3, iv p5, iv p6, iv p7, iv (own_f13 p1 (ts.getD (no + 0) 0) p5 p6 p7)]) rfl ?_
      refine ow_iloadN X23.here hx hby d2_23 rfl ?_
      refine ow_iconst X23.here hx hby d2_24 (v := 1) rfl ?_
      refine ow_icmpNo X23.here hx hby d2_25 (tlt (by decide)).2.2.2 ?_
      refine ow_iload X23.here hx hby d2_28 rfl ?_
      refine ow_aloadN X23.here hx hby d2_30 rfl rfl ?_
      refine ow_iloadN X23.here hx hby d2_31 rfl ?_
      refine ow_iconst X23.here hx hby d2_32 (v := 1) rfl ?_
      refine ow_iadd X23.here hx hby d2_33 ?_
      obtain ⟨cl24, Ar24, -, S24, M24, H24, -⟩ := (id V_a2)
      have hin24 := inb_of (j := ((Int32.ofNat no) + (1 : Int32))) S24 ⟨B25.1, B25.2.1⟩
      refine X23.caload hx (j := ((Int32.ofNat no) + (1 : Int32))) (v := (.int (ts.getD (no + 1) 0))) (by rw [e23]; exact Ar24.1) (State.isArrayOf_alike hZ.alike Ar24.2.1) Ar24.2.2 hin24 (H24.at hin24 (own_tv B25.2.2 (by omega))) (g := (mkF m 34 #[iv p1, rv a2, iv (Int32.ofNat no), iv 3, iv p5, iv p6, iv p7, iv (own_f13 p1 (ts.getD (no + 0) 0) p5 p6 p7)] [(.int ((Int32.ofNat no) + (1 : Int32))), (.ref a2), (.int (own_f13 p1 (ts.getD (no + 0) 0) p5 p6 p7))])) rfl rfl (hb hby d2_34) _ ?_
      show SQ p e below m T23 35 #[iv p1, rv a2, iv (Int32.ofNat no), iv 3, iv p5, iv p6, iv p7, iv (own_f13 p1 (ts.getD (no + 0) 0) p5 p6 p7)] [(.int (ts.getD (no + 1) 0)), (.int (own_f13 p1 (ts.getD (no + 0) 0) p5 p6 p7))] _
      refine ow_iload X23.here hx hby d2_35 rfl ?_
      refine ow_iload X23.here hx hby d2_37 rfl ?_
      refine ow_iload X23.here hx hby d2_39 rfl ?_
      exact kt
    obtain ⟨_, _, ⟨T27, L27, k27, n27⟩, -, X27, ⟨Lc27, hQ27, l27, y27, z27⟩, st27⟩ := Jvm.LawKit.callS X23 hx (y := mn4) hown (mw hZ hw 71 rfl) (mw hZ hw 72 rfl) (mw hZ hw 2 rfl) (mw hZ hw 73 rfl) (by decide) (backOf (W := 0) (rm13 l Z a0 hw [] (own_f13 p1 (ts.getD (no + 0) 0) p5 p6 p7) (ts.getD (no + 1) 0) p5 p6 p7 h0 n0) hZ (wi hw 73 rfl) (wi hw 2 rfl) (by decide) (by decide)) (g := (mkF m 41 #[iv p1, rv a2, iv (Int32.ofNat no), iv 3, iv p5, iv p6, iv p7, iv (own_f13 p1 (ts.getD (no + 0) 0) p5 p6 p7)] [(.int p7), (.int p6), (.int p5), (.int (ts.getD (no + 1) 0)), (.int (own_f13 p1 (ts.getD (no + 0) 0) p5 p6 p7))])) rfl (by rw [hml]; rfl) (argsL := [(.int (own_f13 p1 (ts.getD (no + 0) 0) p5 p6 p7)), (.int (ts.getD (no + 1) 0)), (.int p5), (.int p6), (.int p7)]) (rest := []) (lenOf pd_26 rfl) rfl (by show 2 * 0 + _ ≤ _; exact Nat.le_of_eq rfl) (hb hby d2_41) (fun _ _ => ⟨rfl, e23, (Nat.zero_le _), (Nat.zero_le _)⟩)
    dsimp only [Pt.U, Pt.locs, Pt.cells, Pt.slots] at X27 l27 y27 z27 st27 hQ27
    subst l27 y27 z27
    obtain ⟨rfl, N27q, e27⟩ := hQ27
    have N27 := Fr.app N23 N27q
    have pre27 : PQ p e below m S0 T27 44 #[iv p1, rv a2, iv (Int32.ofNat no), iv 3, iv p5, iv p6, iv p7, iv (own_f13 p1 (ts.getD (no + 0) 0) p5 p6 p7)] [(.int (own_f13 (own_f13 p1 (ts.getD (no + 0) 0) p5 p6 p7) (ts.getD (no + 1) 0) p5 p6 p7))] := fun t kt => pre26 t (st27 _ kt)
    have B29 : ¬ ((Int32.ofNat no) + (2 : Int32)) < (0 : Int32) ∧ ((Int32.ofNat no) + (2 : Int32)) < (4 : Int32) ∧ ((Int32.ofNat no) + (2 : Int32)).toNatClampNeg = no + 2 := by
      have q : ∀ k : Fin 2, ¬ ((Int32.ofNat k.val) + (2 : Int32)) < (0 : Int32) ∧ ((Int32.ofNat k.val) + (2 : Int32)) < (4 : Int32) ∧ ((Int32.ofNat k.val) + (2 : Int32)).toNatClampNeg = k.val + 2 := by decide +kernel
      exact q ⟨no, by omega⟩
    have pre30 : PQ p e below m S0 T27 64 #[iv p1, rv a2, iv (Int32.ofNat no), iv 3, iv p5, iv p6, iv p7, iv (own_f13 (own_f13 p1 (ts.getD (no + 0) 0) p5 p6 p7) (ts.getD (no + 1) 0) p5 p6 p7)] [(.int p7), (.int p6), (.int p5), (.int (ts.getD (no + 2) 0)), (.int (own_f13 (own_f13 p1 (ts.getD (no + 0) 0) p5 p6 p7) (ts.getD (no + 1) 0) p5 p6 p7))] := by
      intro t kt
      refine pre27 t ?_
      refine ow_istore X27.here hx hby d2_44 (l' := #[iv p1, rv a2, iv (Int32.ofNat no), iv 3, iv p5, iv p6, iv p7, iv (own_f13 (own_f13 p1 (ts.getD (no + 0) 0) p5 p6 p7) (ts.getD (no + 1) 0) p5 p6 p7)]) rfl ?_
      refine ow_iloadN X27.here hx hby d2_46 rfl ?_
      refine ow_iconst X27.here hx hby d2_47 (v := 2) rfl ?_
      refine ow_icmpNo X27.here hx hby d2_48 (tlt (by decide)).2.2.2 ?_
      refine ow_iload X27.here hx hby d2_51 rfl ?_
      refine ow_aloadN X27.here hx hby d2_53 rfl rfl ?_
      refine ow_iloadN X27.here hx hby d2_54 rfl ?_
      refine ow_iconst X27.here hx hby d2_55 (v := 2) rfl ?_
      refine ow_iadd X27.here hx hby d2_56 ?_
      obtain ⟨cl28, Ar28, -, S28, M28, H28, -⟩ := (id V_a2)
      have hin28 := inb_of (j := ((Int32.ofNat no) + (2 : Int32))) S28 ⟨B29.1, B29.2.1⟩
      refine X27.caload hx (j := ((Int32.ofNat no) + (2 : Int32))) (v := (.int (ts.getD (no + 2) 0))) (by rw [e27]; exact Ar28.1) (State.isArrayOf_alike hZ.alike Ar28.2.1) Ar28.2.2 hin28 (H28.at hin28 (own_tv B29.2.2 (by omega))) (g := (mkF m 57 #[iv p1, rv a2, iv (Int32.ofNat no), iv 3, iv p5, iv p6, iv p7, iv (own_f13 (own_f13 p1 (ts.getD (no + 0) 0) p5 p6 p7) (ts.getD (no + 1) 0) p5 p6 p7)] [(.int ((Int32.ofNat no) + (2 : Int32))), (.ref a2), (.int (own_f13 (own_f13 p1 (ts.getD (no + 0) 0) p5 p6 p7) (ts.getD (no + 1) 0) p5 p6 p7))])) rfl rfl (hb hby d2_57) _ ?_
      show SQ p e below m T27 58 #[iv p1, rv a2, iv (Int32.ofNat no), iv 3, iv p5, iv p6, iv p7, iv (own_f13 (own_f13 p1 (ts.getD (no + 0) 0) p5 p6 p7) (ts.getD (no + 1) 0) p5 p6 p7)] [(.int (ts.getD (no + 2) 0)), (.int (own_f13 (own_f13 p1 (ts.getD (no + 0) 0) p5 p6 p7) (ts.getD (no + 1) 0) p5 p6 p7))] _
      refine ow_iload X27.here hx hby d2_58 rfl ?_
      refine ow_iload X27.here hx hby d2_60 rfl ?_
      refine ow_iload X27.here hx hby d2_62 rfl ?_
      exact kt
    obtain ⟨_, _, ⟨T31, L31, k31, n31⟩, -, X31, ⟨Lc31, hQ31, l31, y31, z31⟩, st31⟩ := Jvm.LawKit.callS X27 hx (y := mn4) hown (mw hZ hw 71 rfl) (mw hZ hw 72 rfl) (mw hZ hw 2 rfl) (mw hZ hw 73 rfl) (by decide) (backOf (W := 0) (rm13 l Z a0 hw [] (own_f13 (own_f13 p1 (ts.getD (no + 0) 0) p5 p6 p7) (ts.getD (no + 1) 0) p5 p6 p7) (ts.getD (no + 2) 0) p5 p6 p7 h0 n0) hZ (wi hw 73 rfl) (wi hw 2 rfl) (by decide) (by decide)) (g := (mkF m 64 #[iv p1, rv a2, iv (Int32.ofNat no), iv 3, iv p5, iv p6, iv p7, iv (own_f13 (own_f13 p1 (ts.getD (no + 0) 0) p5 p6 p7) (ts.getD (no + 1) 0) p5 p6 p7)] [(.int p7), (.int p6), (.int p5), (.int (ts.getD (no + 2) 0)), (.int (own_f13 (own_f13 p1 (ts.getD (no + 0) 0) p5 p6 p7) (ts.getD (no + 1) 0) p5 p6 p7))])) rfl (by rw [hml]; rfl) (argsL := [(.int (own_f13 (own_f13 p1 (ts.getD (no + 0) 0) p5 p6 p7) (ts.getD (no + 1) 0) p5 p6 p7)), (.int (ts.getD (no + 2) 0)), (.int p5), (.int p6), (.int p7)]) (rest := []) (lenOf pd_26 rfl) rfl (by show 2 * 0 + _ ≤ _; exact Nat.le_of_eq rfl) (hb hby d2_64) (fun _ _ => ⟨rfl, e27, (Nat.zero_le _), (Nat.zero_le _)⟩)
    dsimp only [Pt.U, Pt.locs, Pt.cells, Pt.slots] at X31 l31 y31 z31 st31 hQ31
    subst l31 y31 z31
    obtain ⟨rfl, N31q, e31⟩ := hQ31
    have N31 := Fr.app N27 N31q
    have pre31 : PQ p e below m S0 T31 67 #[iv p1, rv a2, iv (Int32.ofNat no), iv 3, iv p5, iv p6, iv p7, iv (own_f13 (own_f13 p1 (ts.getD (no + 0) 0) p5 p6 p7) (ts.getD (no + 1) 0) p5 p6 p7)] [(.int (own_f13 (own_f13 (own_f13 p1 (ts.getD (no + 0) 0) p5 p6 p7) (ts.getD (no + 1) 0) p5 p6 p7) (ts.getD (no + 2) 0) p5 p6 p7))] := fun t kt => pre30 t (st31 _ kt)
    have pre32 : PQ p e below m S0 T31 94 #[iv p1, rv a2, iv (Int32.ofNat no), iv 3, iv p5, iv p6, iv p7, iv (own_f13 (own_f13 (own_f13 p1 (ts.getD (no + 0) 0) p5 p6 p7) (ts.getD (no + 1) 0) p5 p6 p7) (ts.getD (no + 2) 0) p5 p6 p7)] [(.int (own_f13 (own_f13 (own_f13 p1 (ts.getD (no + 0) 0) p5 p6 p7) (ts.getD (no + 1) 0) p5 p6 p7) (ts.getD (no + 2) 0) p5 p6 p7))] := by
      intro t kt
      refine pre31 t ?_
      refine ow_istore X31.here hx hby d2_67 (l' := #[iv p1, rv a2, iv (Int32.ofNat no), iv 3, iv p5, iv p6, iv p7, iv (own_f13 (own_f13 (own_f13 p1 (ts.getD (no + 0) 0) p5 p6 p7) (ts.getD (no + 1) 0) p5 p6 p7) (ts.getD (no + 2) 0) p5 p6 p7)]) rfl ?_
      refine ow_iloadN X31.here hx hby d2_69 rfl ?_
      refine ow_iconst X31.here hx hby d2_70 (v := 3) rfl ?_
      refine ow_icmpYes X31.here hx hby d2_71 (flt (by decide)).2.2.2 (pc' := 92) (by decide) (by decide) ?_
      refine ow_iload X31.here hx hby d2_92 rfl ?_
      exact kt
    have hres : (own_f13 (own_f13 (own_f13 p1 (ts.getD (no + 0) 0) p5 p6 p7) (ts.getD (no + 1) 0) p5 p6 p7) (ts.getD (no + 2) 0) p5 p6 p7) = (own_pc p5 p6 p7 (own_seg ts no 3) p1) := rfl
    obtain ⟨fs, hr, hu, hd, hW, hme⟩ := X31.leave (v := some (.int (own_f13 (own_f13 (own_f13 p1 (ts.getD (no + 0) 0) p5 p6 p7) (ts.getD (no + 1) 0) p5 p6 p7) (ts.getD (no + 2) 0) p5 p6 p7))) (fun h => by rw [Bd.returns] at h; cases h)
    refine ⟨_, _, pre32 _ ?_, hu, hd, _, _, rfl, ?_, ⟨_, rfl⟩, hW, hme.mono (by decide) (by decide)⟩
    · show SQ p e below m T31 94 #[iv p1, rv a2, iv (Int32.ofNat no), iv 3, iv p5, iv p6, iv p7, iv (own_f13 (own_f13 (own_f13 p1 (ts.getD (no + 0) 0) p5 p6 p7) (ts.getD (no + 1) 0) p5 p6 p7) (ts.getD (no + 2) 0) p5 p6 p7)] [(.int (own_f13 (own_f13 (own_f13 p1 (ts.getD (no + 0) 0) p5 p6 p7) (ts.getD (no + 1) 0) p5 p6 p7) (ts.getD (no + 2) 0) p5 p6 p7))] _
      exact retI X31 hx Bd.returns (hb hby d2_94) hr
    · show Qrm2 Z p1 a2 (Int32.ofNat no) (Int32.ofNat 3) p5 p6 p7 kc ts no 3 h0 n0 _ T31.heap _
      rw [e31]
      exact ⟨congrArg some (congrArg Value.int hres), N31, rfl⟩
  · skip
    have pre33 : PQ p e below m S0 s₁ 0 #[iv p1, rv a2, iv (Int32.ofNat no), iv 4, iv p5, iv p6, iv p7, un] [] := fun t kt => pre0 t ((show Steps p.tables e below _ t from kt))
    have B35 : ¬ (Int32.ofNat no) < (0 : Int32) ∧ (Int32.ofNat no) < (4 : Int32) ∧ (Int32.ofNat no).toNatClampNeg = no + 0 := by
      have q : ∀ k : Fin 4, ¬ (Int32.ofNat k.val) < (0 : Int32) ∧ (Int32.ofNat k.val) < (4 : Int32) ∧ (Int32.ofNat k.val).toNatClampNeg = k.val + 0 := by decide +kernel
      exact q ⟨no, by omega⟩
    have pre36 : PQ p e below m S0 s₁ 18 #[iv p1, rv a2, iv (Int32.ofNat no), iv 4, iv p5, iv p6, iv p7, iv p1] [(.int p7), (.int p6), (.int p5), (.int (ts.getD (no + 0) 0)), (.int p1)] := by
      intro t kt
      refine pre33 t ?_
      refine ow_iloadN X0.here hx hby d2_0 rfl ?_
      refine ow_istore X0.here hx hby d2_1 (l' := #[iv p1, rv a2, iv (Int32.ofNat no), iv 4, iv p5, iv p6, iv p7, iv p1]) rfl ?_
      refine ow_iloadN X0.here hx hby d2_3 rfl ?_
      refine ow_ifNo X0.here hx hby d2_4 ((if0 _ _).trans (tlt (by decide)).2.2.2) ?_
      refine ow_iload X0.here hx hby d2_7 rfl ?_
      refine ow_aloadN X0.here hx hby d2_9 rfl rfl ?_
      refine ow_iloadN X0.here hx hby d2_10 rfl ?_
      obtain ⟨cl34, Ar34, -, S34, M34, H34, -⟩ := (id V_a2)
      have hin34 := inb_of (j := (Int32.ofNat no)) S34 ⟨B35.1, B35.2.1⟩
      refine X0.caload hx (j := (Int32.ofNat no)) (v := (.int (ts.getD (no + 0) 0))) (by rw [e0]; exact Ar34.1) (State.isArrayOf_alike hZ.alike Ar34.2.1) Ar34.2.2 hin34 (H34.at hin34 (own_tv B35.2.2 (by omega))) (g := (mkF m 11 #[iv p1, rv a2, iv (Int32.ofNat no), iv 4, iv p5, iv p6, iv p7, iv p1] [(.int (Int32.ofNat no)), (.ref a2), (.int p1)])) rfl rfl (hb hby d2_11) _ ?_
      show SQ p e below m s₁ 12 #[iv p1, rv a2, iv (Int32.ofNat no), iv 4, iv p5, iv p6, iv p7, iv p1] [(.int (ts.getD (no + 0) 0)), (.int p1)] _
      refine ow_iload X0.here hx hby d2_12 rfl ?_
      refine ow_iload X0.here hx hby d2_14 rfl ?_
      refine ow_iload X0.here hx hby d2_16 rfl ?_
      exact kt
    obtain ⟨_, _, ⟨T37, L37, k37, n37⟩, -, X37, ⟨Lc37, hQ37, l37, y37, z37⟩, st37⟩ := Jvm.LawKit.callS X0 hx (y := mn4) hown (mw hZ hw 71 rfl) (mw hZ hw 72 rfl) (mw hZ hw 2 rfl) (mw hZ hw 73 rfl) (by decide) (backOf (W := 0) (rm13 l Z a0 hw [] p1 (ts.getD (no + 0) 0) p5 p6 p7 h0 n0) hZ (wi hw 73 rfl) (wi hw 2 rfl) (by decide) (by decide)) (g := (mkF m 18 #[iv p1, rv a2, iv (Int32.ofNat no), iv 4, iv p5, iv p6, iv p7, iv p1] [(.int p7), (.int p6), (.int p5), (.int (ts.getD (no + 0) 0)), (.int p1)])) rfl (by rw [hml]; rfl) (argsL := [(.int p1), (.int (ts.getD (no + 0) 0)), (.int p5), (.int p6), (.int p7)]) (rest := []) (lenOf pd_26 rfl) rfl (by show 2 * 0 + _ ≤ _; exact Nat.le_of_eq rfl) (hb hby d2_18) (fun _ _ => ⟨rfl, e0, (Nat.zero_le _), (Nat.zero_le _)⟩)
    dsimp only [Pt.U, Pt.locs, Pt.cells, Pt.slots] at X37 l37 y37 z37 st37 hQ37
    subst l37 y37 z37
    obtain ⟨rfl, N37q, e37⟩ := hQ37
    have N37 := Fr.app N0 N37q
    have pre37 : PQ p e below m S0 T37 21 #[iv p1, rv a2, iv (Int32.ofNat no), iv 4, iv p5, iv p6, iv p7, iv p1] [(.int (own_f13 p1 (ts.getD (no + 0) 0) p5 p6 p7))] := fun t kt => pre36 t (st37 _ kt)
    have B39 : ¬ ((Int32.ofNat no) + (1 : Int32)) < (0 : Int32) ∧ ((Int32.ofNat no) + (1 : Int32)) < (4 : Int32) ∧ ((Int32.ofNat no) + (1 : Int32)).toNatClampNeg = no + 1 := by
      have q : ∀ k : Fin 3, ¬ ((Int32.ofNat k.val) + (1 : Int32)) < (0 : Int32) ∧ ((Int32.ofNat k.val) + (1 : Int32)) < (4 : Int32) ∧ ((Int32.ofNat k.val) + (1 : Int32)).toNatClampNeg = k.val + 1 := by decide +kernel
      exact q ⟨no, by omega⟩
    have pre40 : PQ p e below m S0 T37 41 #[iv p1, rv a2, iv (Int32.ofNat no), iv 4, iv p5, iv p6, iv p7, iv (own_f13 p1 (ts.getD (no + 0) 0) p5 p6 p7)] [(.int p7), (.int p6), (.int p5), (.int (ts.getD (no + 1) 0)), (.int (own_f13 p1 (ts.getD (no + 0) 0) p5 p6 p7))] := by
      intro t kt
      refine pre37 t ?_
      refine ow_istore X37.here hx hby d2_21 (l' := #[iv p1, rv a2, iv (Int32.ofNat no), iv 4, iv p5, iv p6, iv p7, iv (own_f13 p1 (ts.getD (no + 0) 0) p5 p6 p7)]) rfl ?_
      refine ow_iloadN X37.here hx hby d2_23 rfl ?_
      refine ow_iconst X37.here hx hby d2_24 (v := 1) rfl ?_
      refine ow_icmpNo X37.here hx hby d2_25 (tlt (by decide)).2.2.2 ?_
      refine ow_iload X37.here hx hby d2_28 rfl ?_
      refine ow_aloadN X37.here hx hby d2_30 rfl rfl ?_
      refine ow_iloadN X37.here hx hby d2_31 rfl ?_
      refine ow_iconst X37.here hx hby d2_32 (v := 1) rfl ?_
      refine ow_iadd X37.here hx hby d2_33 ?_
      obtain ⟨cl38, Ar38, -, S38, M38, H38, -⟩ := (id V_a2)
      have hin38 := inb_of (j := ((Int32.ofNat no) + (1 : Int32))) S38 ⟨B39.1, B39.2.1⟩
      refine X37.caload hx (j := ((Int32.ofNat no) + (1 : Int32))) (v := (.int (ts.getD (no + 1) 0))) (by rw [e37]; exact Ar38.1) (State.isArrayOf_alike hZ.alike Ar38.2.1) Ar38.2.2 hin38 (H38.at hin38 (own_tv B39.2.2 (by omega))) (g := (mkF m 34 #[iv p1, rv a2, iv (Int32.ofNat no), iv 4, iv p5, iv p6, iv p7, iv (own_f13 p1 (ts.getD (no + 0) 0) p5 p6 p7)] [(.int ((Int32.ofNat no) + (1 : Int32))), (.ref a2), (.int (own_f13 p1 (ts.getD (no + 0) 0) p5 p6 p7))])) rfl rfl (hb hby d2_34) _ ?_
      show SQ p e below m T37 35 #[iv p1, rv a2, iv (Int32.ofNat no), iv 4, iv p5, iv p6, iv p7, iv (own_f13 p1 (ts.getD (no + 0) 0) p5 p6 p7)] [(.int (ts.getD (no + 1) 0)), (.int (own_f13 p1 (ts.getD (no + 0) 0) p5 p6 p7))] _
      refine ow_iload X37.here hx hby d2_35 rfl ?_
      refine ow_iload X37.here hx hby d2_37 rfl ?_
      refine ow_iload X37.here hx hby d2_39 rfl ?_
      exact kt
    obtain ⟨_, _, ⟨T41, L41, k41, n41⟩, -, X41, ⟨Lc41, hQ41, l41, y41, z41⟩, st41⟩ := Jvm.LawKit.callS X37 hx (y := mn4) hown (mw hZ hw 71 rfl) (mw hZ hw 72 rfl) (mw hZ hw 2 rfl) (mw hZ hw 73 rfl) (by decide) (backOf (W := 0) (rm13 l Z a0 hw [] (own_f13 p1 (ts.getD (no + 0) 0) p5 p6 p7) (ts.getD (no + 1) 0) p5 p6 p7 h0 n0) hZ (wi hw 73 rfl) (wi hw 2 rfl) (by decide) (by decide)) (g := (mkF m 41 #[iv p1, rv a2, iv (Int32.ofNat no), iv 4, iv p5, iv p6, iv p7, iv (own_f13 p1 (ts.getD (no + 0) 0) p5 p6 p7)] [(.int p7), (.int p6), (.int p5), (.int (ts.getD (no + 1) 0)), (.int (own_f13 p1 (ts.getD (no + 0) 0) p5 p6 p7))])) rfl (by rw [hml]; rfl) (argsL := [(.int (own_f13 p1 (ts.getD (no + 0) 0) p5 p6 p7)), (.int (ts.getD (no + 1) 0)), (.int p5), (.int p6), (.int p7)]) (rest := []) (lenOf pd_26 rfl) rfl (by show 2 * 0 + _ ≤ _; exact Nat.le_of_eq rfl) (hb hby d2_41) (fun _ _ => ⟨rfl, e37, (Nat.zero_le _), (Nat.zero_le _)⟩)
    dsimp only [Pt.U, Pt.locs, Pt.cells, Pt.slots] at X41 l41 y41 z41 st41 hQ41
    subst l41 y41 z41
    obtain ⟨rfl, N41q, e41⟩ := hQ41
    have N41 := Fr.app N37 N41q
    have pre41 : PQ p e below m S0 T41 44 #[iv p1, rv a2, iv (Int32.ofNat no), iv 4, iv p5, iv p6, iv p7, iv (own_f13 p1 (ts.getD (no + 0) 0) p5 p6 p7)] [(.int (own_f13 (own_f13 p1 (ts.getD (no + 0) 0) p5 p6 p7) (ts.getD (no + 1) 0) p5 p6 p7))] := fun t kt => pre40 t (st41 _ kt)
    have B43 : ¬ ((Int32.ofNat no) + (2 : Int32)) < (0 : Int32) ∧ ((Int32.ofNat no) + (2 : Int32)) < (4 : Int32) ∧ ((Int32.ofNat no) + (2 : Int32)).toNatClampNeg = no + 2 := by
      have q : ∀ k : Fin 2, ¬ ((Int32.ofNat k.val) + (2 : Int32)) < (0 : Int32) ∧ ((Int32.ofNat k.val) + (2 : Int32)) < (4 : Int32) ∧ ((Int32.ofNat k.val) + (2 : Int32)).toNatClampNeg = k.val + 2 := by decide +kernel
      exact q ⟨no, by omega⟩
    have pre44 : PQ p e below m S0 T41 64 #[iv p1, rv a2, iv (Int32.ofNat no), iv 4, iv p5, iv p6, iv p7, iv (own_f13 (own_f13 p1 (ts.getD (no + 0) 0) p5 p6 p7) (ts.getD (no + 1) 0) p5 p6 p7)] [(.int p7), (.int p6), (.int p5), (.int (ts.getD (no + 2) 0)), (.int (own_f13 (own_f13 p1 (ts.getD (no + 0) 0) p5 p6 p7) (ts.getD (no + 1) 0) p5 p6 p7))] := by
      intro t kt
      refine pre41 t ?_
      refine ow_istore X41.here hx hby d2_44 (l' := #[iv p1, rv a2, iv (Int32.ofNat no), iv 4, iv p5, iv p6, iv p7, iv (own_f13 (own_f13 p1 (ts.getD (no + 0) 0) p5 p6 p7) (ts.getD (no + 1) 0) p5 p6 p7)]) rfl ?_
      refine ow_iloadN X41.here hx hby d2_46 rfl ?_
      refine ow_iconst X41.here hx hby d2_47 (v := 2) rfl ?_
      refine ow_icmpNo X41.here hx hby d2_48 (tlt (by decide)).2.2.2 ?_
      refine ow_iload X41.here hx hby d2_51 rfl ?_
      refine ow_aloadN X41.here hx hby d2_53 rfl rfl ?_
      refine ow_iloadN X41.here hx hby d2_54 rfl ?_
      refine ow_iconst X41.here hx hby d2_55 (v := 2) rfl ?_
      refine ow_iadd X41.here hx hby d2_56 ?_
      obtain ⟨cl42, Ar42, -, S42, M42, H42, -⟩ := (id V_a2)
      have hin42 := inb_of (j := ((Int32.ofNat no) + (2 : Int32))) S42 ⟨B43.1, B43.2.1⟩
      refine X41.caload hx (j := ((Int32.ofNat no) + (2 : Int32))) (v := (.int (ts.getD (no + 2) 0))) (by rw [e41]; exact Ar42.1) (State.isArrayOf_alike hZ.alike Ar42.2.1) Ar42.2.2 hin42 (H42.at hin42 (own_tv B43.2.2 (by omega))) (g := (mkF m 57 #[iv p1, rv a2, iv (Int32.ofNat no), iv 4, iv p5, iv p6, iv p7, iv (own_f13 (own_f13 p1 (ts.getD (no + 0) 0) p5 p6 p7) (ts.getD (no + 1) 0) p5 p6 p7)] [(.int ((Int32.ofNat no) + (2 : Int32))), (.ref a2), (.int (own_f13 (own_f13 p1 (ts.getD (no + 0) 0) p5 p6 p7) (ts.getD (no + 1) 0) p5 p6 p7))])) rfl rfl (hb hby d2_57) _ ?_
      show SQ p e below m T41 58 #[iv p1, rv a2, iv (Int32.ofNat no), iv 4, iv p5, iv p6, iv p7, iv (own_f13 (own_f13 p1 (ts.getD (no + 0) 0) p5 p6 p7) (ts.getD (no + 1) 0) p5 p6 p7)] [(.int (ts.getD (no + 2) 0)), (.int (own_f13 (own_f13 p1 (ts.getD (no + 0) 0) p5 p6 p7) (ts.getD (no + 1) 0) p5 p6 p7))] _
      refine ow_iload X41.here hx hby d2_58 rfl ?_
      refine ow_iload X41.here hx hby d2_60 rfl ?_
      refine ow_iload X41.here hx hby d2_62 rfl ?_
      exact kt
    obtain ⟨_, _, ⟨T45, L45, k45, n45⟩, -, X45, ⟨Lc45, hQ45, l45, y45, z45⟩, st45⟩ := Jvm.LawKit.callS X41 hx (y := mn4) hown (mw hZ hw 71 rfl) (mw hZ hw 72 rfl) (mw hZ hw 2 rfl) (mw hZ hw 73 rfl) (by decide) (backOf (W := 0) (rm13 l Z a0 hw [] (own_f13 (own_f13 p1 (ts.getD (no + 0) 0) p5 p6 p7) (ts.getD (no + 1) 0) p5 p6 p7) (ts.getD (no + 2) 0) p5 p6 p7 h0 n0) hZ (wi hw 73 rfl) (wi hw 2 rfl) (by decide) (by decide)) (g := (mkF m 64 #[iv p1, rv a2, iv (Int32.ofNat no), iv 4, iv p5, iv p6, iv p7, iv (own_f13 (own_f13 p1 (ts.getD (no + 0) 0) p5 p6 p7) (ts.getD (no + 1) 0) p5 p6 p7)] [(.int p7), (.int p6), (.int p5), (.int (ts.getD (no + 2) 0)), (.int (own_f13 (own_f13 p1 (ts.getD (no + 0) 0) p5 p6 p7) (ts.getD (no + 1) 0) p5 p6 p7))])) rfl (by rw [hml]; rfl) (argsL := [(.int (own_f13 (own_f13 p1 (ts.getD (no + 0) 0) p5 p6 p7) (ts.getD (no + 1) 0) p5 p6 p7)), (.int (ts.getD (no + 2) 0)), (.int p5), (.int p6), (.int p7)]) (rest := []) (lenOf pd_26 rfl) rfl (by show 2 * 0 + _ ≤ _; exact Nat.le_of_eq rfl) (hb hby d2_64) (fun _ _ => ⟨rfl, e41, (Nat.zero_le _), (Nat.zero_le _)⟩)
    dsimp only [Pt.U, Pt.locs, Pt.cells, Pt.slots] at X45 l45 y45 z45 st45 hQ45
    subst l45 y45 z45
    obtain ⟨rfl, N45q, e45⟩ := hQ45
    have N45 := Fr.app N41 N45q
    have pre45 : PQ p e below m S0 T45 67 #[iv p1, rv a2, iv (Int32.ofNat no), iv 4, iv p5, iv p6, iv p7, iv (own_f13 (own_f13 p1 (ts.getD (no + 0) 0) p5 p6 p7) (ts.getD (no + 1) 0) p5 p6 p7)] [(.int (own_f13 (own_f13 (own_f13 p1 (ts.getD (no + 0) 0) p5 p6 p7) (ts.getD (no + 1) 0) p5 p6 p7) (ts.getD (no + 2) 0) p5 p6 p7))] := fun t kt => pre44 t (st45 _ kt)
    have B47 : ¬ ((Int32.ofNat no) + (3 : Int32)) < (0 : Int32) ∧ ((Int32.ofNat no) + (3 : Int32)) < (4 : Int32) ∧ ((Int32.ofNat no) + (3 : Int32)).toNatClampNeg = no + 3 := by
      have q : ∀ k : Fin 1, ¬ ((Int32.ofNat k.val) + (3 : Int32)) < (0 : Int32) ∧ ((Int32.ofNat k.val) + (3 : Int32)) < (4 : Int32) ∧ ((Int32.ofNat k.val) + (3 : Int32)).toNatClampNeg = k.val + 3 := by decide +kernel
      exact q ⟨no, by omega⟩
    have pre48 : PQ p e below m S0 T45 87 #[iv p1, rv a2, iv (Int32.ofNat no), iv 4, iv p5, iv p6, iv p7, iv (own_f13 (own_f13 (own_f13 p1 (ts.getD (no + 0) 0) p5 p6 p7) (ts.getD (no + 1) 0) p5 p6 p7) (ts.getD (no + 2) 0) p5 p6 p7)] [(.int p7), (.int p6), (.int p5), (.int (ts.getD (no + 3) 0)), (.int (own_f13 (own_f13 (own_f13 p1 (ts.getD (no + 0) 0) p5 p6 p7) (ts.getD (no + 1) 0) p5 p6 p7) (ts.getD (no + 2) 0) p5 p6 p7))] := by
      intro t kt
      refine pre45 t ?_
      refine ow_istore X45.here hx hby d2_67 (l' := #[iv p1, rv a2, iv (Int32.ofNat no), iv 4, iv p5, iv p6, iv p7, iv (own_f13 (own_f13 (own_f13 p1 (ts.getD (no + 0) 0) p5 p6 p7) (ts.getD (no + 1) 0) p5 p6 p7) (ts.getD (no + 2) 0) p5 p6 p7)]) rfl ?_
      refine ow_iloadN X45.here hx hby d2_69 rfl ?_
      refine ow_iconst X45.here hx hby d2_70 (v := 3) rfl ?_
      refine ow_icmpNo X45.here hx hby d2_71 (tlt (by decide)).2.2.2 ?_
      refine ow_iload X45.here hx hby d2_74 rfl ?_
      refine ow_aloadN X45.here hx hby d2_76 rfl rfl ?_
      refine ow_iloadN X45.here hx hby d2_77 rfl ?_
      refine ow_iconst X45.here hx hby d2_78 (v := 3) rfl ?_
      refine ow_iadd X45.here hx hby d2_79 ?_
      obtain ⟨cl46, Ar46, -, S46, M46, H46, -⟩ := (id V_a2)
      have hin46 := inb_of (j := ((Int32.ofNat no) + (3 : Int32))) S46 ⟨B47.1, B47.2.1⟩
      refine X45.caload hx (j := ((Int32.ofNat no) + (3 : Int32))) (v := (.int (ts.getD (no + 3) 0))) (by rw [e45]; exact Ar46.1) (State.isArrayOf_alike hZ.alike Ar46.2.1) Ar46.2.2 hin46 (H46.at hin46 (own_tv B47.2.2 (by omega))) (g := (mkF m 80 #[iv p1, rv a2, iv (Int32.ofNat no), iv 4, iv p5, iv p6, iv p7, iv (own_f13 (own_f13 (own_f13 p1 (ts.getD (no + 0) 0) p5 p6 p7) (ts.getD (no + 1) 0) p5 p6 p7) (ts.getD (no + 2) 0) p5 p6 p7)] [(.int ((Int32.ofNat no) + (3 : Int32))), (.ref a2), (.int (own_f13 (own_f13 (own_f13 p1 (ts.getD (no + 0) 0) p5 p6 p7) (ts.getD (no + 1) 0) p5 p6 p7) (ts.getD (no + 2) 0) p5 p6 p7))])) rfl rfl (hb hby d2_80) _ ?_
      show SQ p e below m T45 81 #[iv p1, rv a2, iv (Int32.ofNat no), iv 4, iv p5, iv p6, iv p7, iv (own_f13 (own_f13 (own_f13 p1 (ts.getD (no + 0) 0) p5 p6 p7) (ts.getD (no + 1) 0) p5 p6 p7) (ts.getD (no + 2) 0) p5 p6 p7)] [(.int (ts.getD (no + 3) 0)), (.int (own_f13 (own_f13 (own_f13 p1 (ts.getD (no + 0) 0) p5 p6 p7) (ts.getD (no + 1) 0) p5 p6 p7) (ts.getD (no + 2) 0) p5 p6 p7))] _
      refine ow_iload X45.here hx hby d2_81 rfl ?_
      refine ow_iload X45.here hx hby d2_83 rfl ?_
      refine ow_iload X45.here hx hby d2_85 rfl ?_
      exact kt
    obtain ⟨_, _, ⟨T49, L49, k49, n49⟩, -, X49, ⟨Lc49, hQ49, l49, y49, z49⟩, st49⟩ := Jvm.LawKit.callS X45 hx (y := mn4) hown (mw hZ hw 71 rfl) (mw hZ hw 72 rfl) (mw hZ hw 2 rfl) (mw hZ hw 73 rfl) (by decide) (backOf (W := 0) (rm13 l Z a0 hw [] (own_f13 (own_f13 (own_f13 p1 (ts.getD (no + 0) 0) p5 p6 p7) (ts.getD (no + 1) 0) p5 p6 p7) (ts.getD (no + 2) 0) p5 p6 p7) (ts.getD (no + 3) 0) p5 p6 p7 h0 n0) hZ (wi hw 73 rfl) (wi hw 2 rfl) (by decide) (by decide)) (g := (mkF m 87 #[iv p1, rv a2, iv (Int32.ofNat no), iv 4, iv p5, iv p6, iv p7, iv (own_f13 (own_f13 (own_f13 p1 (ts.getD (no + 0) 0) p5 p6 p7) (ts.getD (no + 1) 0) p5 p6 p7) (ts.getD (no + 2) 0) p5 p6 p7)] [(.int p7), (.int p6), (.int p5), (.int (ts.getD (no + 3) 0)), (.int (own_f13 (own_f13 (own_f13 p1 (ts.getD (no + 0) 0) p5 p6 p7) (ts.getD (no + 1) 0) p5 p6 p7) (ts.getD (no + 2) 0) p5 p6 p7))])) rfl (by rw [hml]; rfl) (argsL := [(.int (own_f13 (own_f13 (own_f13 p1 (ts.getD (no + 0) 0) p5 p6 p7) (ts.getD (no + 1) 0) p5 p6 p7) (ts.getD (no + 2) 0) p5 p6 p7)), (.int (ts.getD (no + 3) 0)), (.int p5), (.int p6), (.int p7)]) (rest := []) (lenOf pd_26 rfl) rfl (by show 2 * 0 + _ ≤ _; exact Nat.le_of_eq rfl) (hb hby d2_87) (fun _ _ => ⟨rfl, e45, (Nat.zero_le _), (Nat.zero_le _)⟩)
    dsimp only [Pt.U, Pt.locs, Pt.cells, Pt.slots] at X49 l49 y49 z49 st49 hQ49
    subst l49 y49 z49
    obtain ⟨rfl, N49q, e49⟩ := hQ49
    have N49 := Fr.app N45 N49q
    have pre49 : PQ p e below m S0 T49 90 #[iv p1, rv a2, iv (Int32.ofNat no), iv 4, iv p5, iv p6, iv p7, iv (own_f13 (own_f13 (own_f13 p1 (ts.getD (no + 0) 0) p5 p6 p7) (ts.getD (no + 1) 0) p5 p6 p7) (ts.getD (no + 2) 0) p5 p6 p7)] [(.int (own_f13 (own_f13 (own_f13 (own_f13 p1 (ts.getD (no + 0) 0) p5 p6 p7) (ts.getD (no + 1) 0) p5 p6 p7) (ts.getD (no + 2) 0) p5 p6 p7) (ts.getD (no + 3) 0) p5 p6 p7))] := fun t kt => pre48 t (st49 _ kt)
    have pre50 : PQ p e below m S0 T49 94 #[iv p1, rv a2, iv (Int32.ofNat no), iv 4, iv p5, iv p6, iv p7, iv (own_f13 (own_f13 (own_f13 (own_f13 p1 (ts.getD (no + 0) 0) p5 p6 p7) (ts.getD (no + 1) 0) p5 p6 p7) (ts.getD (no + 2) 0) p5 p6 p7) (ts.getD (no + 3) 0) p5 p6 p7)] [(.int (own_f13 (own_f13 (own_f13 (own_f13 p1 (ts.getD (no + 0) 0) p5 p6 p7) (ts.getD (no + 1) 0) p5 p6 p7) (ts.getD (no + 2) 0) p5 p6 p7) (ts.getD (no + 3) 0) p5 p6 p7))] := by
      intro t kt
      refine pre49 t ?_
      refine ow_istore X49.here hx hby d2_90 (l' := #[iv p1, rv a2, iv (Int32.ofNat no), iv 4, iv p5, iv p6, iv p7, iv (own_f13 (own_f13 (own_f13 (own_f13 p1 (ts.getD (no + 0) 0) p5 p6 p7) (ts.getD (no + 1) 0) p5 p6 p7) (ts.getD (no + 2) 0) p5 p6 p7) (ts.getD (no + 3) 0) p5 p6 p7)]) rfl ?_
      refine ow_iload X49.here hx hby d2_92 rfl ?_
      exact kt
    have hres : (own_f13 (own_f13 (own_f13 (own_f13 p1 (ts.getD (no + 0) 0) p5 p6 p7) (ts.getD (no + 1) 0) p5 p6 p7) (ts.getD (no + 2) 0) p5 p6 p7) (ts.getD (no + 3) 0) p5 p6 p7) = (own_pc p5 p6 p7 (own_seg ts no 4) p1) := rfl
    obtain ⟨fs, hr, hu, hd, hW, hme⟩ := X49.leave (v := some (.int (own_f13 (own_f13 (own_f13 (own_f13 p1 (ts.getD (no + 0) 0) p5 p6 p7) (ts.getD (no + 1) 0) p5 p6 p7) (ts.getD (no + 2) 0) p5 p6 p7) (ts.getD (no + 3) 0) p5 p6 p7))) (fun h => by rw [Bd.returns] at h; cases h)
    refine ⟨_, _, pre50 _ ?_, hu, hd, _, _, rfl, ?_, ⟨_, rfl⟩, hW, hme.mono (by decide) (by decide)⟩
    · show SQ p e below m T49 94 #[iv p1, rv a2, iv (Int32.ofNat no), iv 4, iv p5, iv p6, iv p7, iv (own_f13 (own_f13 (own_f13 (own_f13 p1 (ts.getD (no + 0) 0) p5 p6 p7) (ts.getD (no + 1) 0) p5 p6 p7) (ts.getD (no + 2) 0) p5 p6 p7) (ts.getD (no + 3) 0) p5 p6 p7)] [(.int (own_f13 (own_f13 (own_f13 (own_f13 p1 (ts.getD (no + 0) 0) p5 p6 p7) (ts.getD (no + 1) 0) p5 p6 p7) (ts.getD (no + 2) 0) p5 p6 p7) (ts.getD (no + 3) 0) p5 p6 p7))] _
      exact retI X49 hx Bd.returns (hb hby d2_94) hr
    · show Qrm2 Z p1 a2 (Int32.ofNat no) (Int32.ofNat 4) p5 p6 p7 kc ts no 4 h0 n0 _ T49.heap _
      rw [e49]
      exact ⟨congrArg some (congrArg Value.int hres), N49, rfl⟩

theorem own_sh : ∀ k : Fin 101, ∀ a : Fin 2, ((Int32.ofNat k.val * 2 + Int32.ofNat a.val) &&& (1 : Int32)) = Int32.ofNat a.val ∧ (((Int32.ofNat k.val * 2 + Int32.ofNat a.val).toUInt32 >>> ((1 : Int32) &&& 31).toUInt32).toInt32) = Int32.ofNat k.val := by decide +kernel
theorem own_sh' {k : Nat} {a : Int32} (hk : k ≤ 100) (ha : a = 0 ∨ a = 1) : ((Int32.ofNat k * 2 + a) &&& (1 : Int32)) = a ∧ (((Int32.ofNat k * 2 + a).toUInt32 >>> ((1 : Int32) &&& 31).toUInt32).toInt32) = Int32.ofNat k := by
  rcases ha with rfl | rfl
  · exact own_sh ⟨k, by omega⟩ 0
  · exact own_sh ⟨k, by omega⟩ 1
theorem own_step1 {k : Nat} {a c b0 b1 bl hi : Int32} {cs : List Int32} (hk : k ≤ 100) (ha : a = 0 ∨ a = 1) (hB : ((¬ bl < 1 ∧ c = b0) ∨ (¬ bl < 2 ∧ c = b1)) ↔ (¬ hi < c ∧ ¬ own_xi c cs < 0)) : own_f13 (Int32.ofNat k * 2 + a) c b0 b1 bl = own_sl cs hi (Int32.ofNat k) a c * 2 + own_sa cs hi a c := by
  obtain ⟨e1, e2⟩ := own_sh' hk ha
  unfold own_f13
  rw [e1, e2]
  have hA : ∀ l : Int32, (if a = 0 then own_f13_16 (Int32.ofNat k * 2 + a) c b0 b1 bl l 0 else own_f13_16 (Int32.ofNat k * 2 + a) c b0 b1 bl l 1) = own_f13_16 (Int32.ofNat k * 2 + a) c b0 b1 bl l a := fun l => by
    rcases ha with rfl | rfl <;> simp
  rw [hA]
  have hC : own_f13_16 (Int32.ofNat k * 2 + a) c b0 b1 bl (Int32.ofNat k) a = own_f13_45 (Int32.ofNat k * 2 + a) c b0 b1 bl (Int32.ofNat k) a (if (¬ hi < c ∧ ¬ own_xi c cs < 0) then 1 else 0) := by
    have hB' : (if (¬ bl < 1 ∧ c = b0) ∨ (¬ bl < 2 ∧ c = b1) then (1 : Int32) else 0) = if (¬ hi < c ∧ ¬ own_xi c cs < 0) then 1 else 0 := by
      by_cases q : (¬ hi < c ∧ ¬ own_xi c cs < 0)
      · rw [if_pos q, if_pos (hB.mpr q)]
      · rw [if_neg q, if_neg (fun h => q (hB.mp h))]
    rw [← hB']
    unfold own_f13_16 own_f13_29 own_f13_44 own_f13_40
    by_cases q1 : bl < 1 <;> by_cases q2 : c = b0 <;> by_cases q3 : bl < 2 <;> by_cases q4 : c = b1
    all_goals first
      | rw [if_pos (show (¬ bl < 1 ∧ c = b0) ∨ (¬ bl < 2 ∧ c = b1) from by first | exact Or.inl ⟨q1, q2⟩ | exact Or.inr ⟨q3, q4⟩)]
      | rw [if_neg (show ¬ ((¬ bl < 1 ∧ c = b0) ∨ (¬ bl < 2 ∧ c = b1)) from by
          rintro (⟨h1, h2⟩ | ⟨h3, h4⟩)
          · first | exact h1 q1 | exact q2 h2
          · first | exact h3 q3 | exact q4 h4)]
    all_goals repeat first | rw [if_pos q1] | rw [if_neg q1] | rw [if_pos q2] | rw [if_neg q2] | rw [if_pos q3] | rw [if_neg q3] | rw [if_pos q4] | rw [if_neg q4]
  have hE : own_en cs hi a c = (if (¬ hi < c ∧ ¬ own_xi c cs < 0) then (if c = 10 then (if a = 0 then 1 else 0) else 1) else 0) := by
    unfold own_en
    by_cases q1 : hi < c
    · rw [if_pos q1, if_neg (fun h => h.1 q1)]
    · rw [if_neg q1]
      by_cases q2 : own_xi c cs < 0
      · rw [if_pos q2, if_neg (fun h => h.2 q2)]
      · rw [if_neg q2, if_pos (show ¬ hi < c ∧ ¬ own_xi c cs < 0 from ⟨q1, q2⟩)]
  rw [hC]
  unfold own_f13_45 own_f13_67 own_f13_63 own_f13_68 own_f13_84 own_f13_101 own_f13_102 own_sl own_sa
  rw [hE]
  by_cases hb : (¬ hi < c ∧ ¬ own_xi c cs < 0)
  · rw [if_pos hb, if_pos hb]
    clear hC hB hE hA hb e1 e2
    by_cases q3 : c = 10 <;> by_cases q4 : a = 0 <;> by_cases q5 : c = 13 <;> simp [q3, q4, q5]
  · rw [if_neg hb, if_neg hb]; simp
theorem own_corr {b0 b1 bl hi : Int32} {cs : List Int32} (hB : ∀ c : Int32, ¬ c < 0 ∧ ¬ (65535 : Int32) < c → (((¬ bl < 1 ∧ c = b0) ∨ (¬ bl < 2 ∧ c = b1)) ↔ (¬ hi < c ∧ ¬ own_xi c cs < 0))) : ∀ (r : List Int32) (k : Nat) (a : Int32), (∀ c ∈ r, ¬ c < 0 ∧ ¬ (65535 : Int32) < c) → k + r.length ≤ 100 → (a = 0 ∨ a = 1) → ∃ k' a', own_run cs hi r (Int32.ofNat k, a) = (Int32.ofNat k', a') ∧ own_pc b0 b1 bl r (Int32.ofNat k * 2 + a) = Int32.ofNat k' * 2 + a' ∧ k' ≤ k + r.length ∧ (a' = 0 ∨ a' = 1)
  | [], k, a, _, _, ha => ⟨k, a, rfl, rfl, Nat.le_refl _, ha⟩
  | c :: r, k, a, hr, hk, ha => by
    have hc := hr c (List.mem_cons_self)
    have e := own_step1 (k := k) (by omega) ha (hB c hc)
    simp only [List.length_cons] at hk ⊢
    have h1 : own_sl cs hi (Int32.ofNat k) a c = Int32.ofNat k ∨ own_sl cs hi (Int32.ofNat k) a c = Int32.ofNat (k + 1) := by
      unfold own_sl; split
      · exact Or.inl rfl
      · exact Or.inr (by rw [Int32.ofNat_add]; rfl)
    have h2 : own_sa cs hi a c = 0 ∨ own_sa cs hi a c = 1 := by
      unfold own_sa; repeat' split
      all_goals simp
    have e3 : own_pc b0 b1 bl (c :: r) (Int32.ofNat k * 2 + a) = own_pc b0 b1 bl r (own_f13 (Int32.ofNat k * 2 + a) c b0 b1 bl) := rfl
    have e4 : own_run cs hi (c :: r) (Int32.ofNat k, a) = own_run cs hi r (own_sl cs hi (Int32.ofNat k) a c, own_sa cs hi a c) := rfl
    rw [e3, e4, e]
    rcases h1 with h1 | h1
    · rw [h1]
      obtain ⟨k', a', g1, g2, g3, g4⟩ := own_corr hB r k (own_sa cs hi a c) (fun d hd => hr d (List.mem_cons_of_mem _ hd)) (by omega) h2
      exact ⟨k', a', g1, g2, by omega, g4⟩
    · rw [h1]
      obtain ⟨k', a', g1, g2, g3, g4⟩ := own_corr hB r (k + 1) (own_sa cs hi a c) (fun d hd => hr d (List.mem_cons_of_mem _ hd)) (by omega) h2
      exact ⟨k', a', g1, g2, by omega, g4⟩
theorem own_end {b0 b1 bl hi : Int32} {cs : List Int32} (hB : ∀ c : Int32, ¬ c < 0 ∧ ¬ (65535 : Int32) < c → (((¬ bl < 1 ∧ c = b0) ∨ (¬ bl < 2 ∧ c = b1)) ↔ (¬ hi < c ∧ ¬ own_xi c cs < 0))) (r1 r2 : List Int32) (h1 : ∀ c ∈ r1, ¬ c < 0 ∧ ¬ (65535 : Int32) < c) (h2 : ∀ c ∈ r2, ¬ c < 0 ∧ ¬ (65535 : Int32) < c) (l1 : r1.length ≤ 4) (l2 : r2.length ≤ 4) : (own_run cs hi r1 (1, 0)).1 = (((own_pc b0 b1 bl r1 2).toUInt32 >>> ((1 : Int32) &&& 31).toUInt32).toInt32) ∧ (own_run cs hi r2 ((own_run cs hi r1 (1, 0)).1, (own_run cs hi r1 (1, 0)).2)).1 = (((own_pc b0 b1 bl r2 (own_pc b0 b1 bl r1 2)).toUInt32 >>> ((1 : Int32) &&& 31).toUInt32).toInt32) := by
  obtain ⟨k, a, g1, g2, g3, g4⟩ := own_corr hB r1 1 0 h1 (by omega) (Or.inl rfl)
  obtain ⟨k', a', q1, q2, q3, q4⟩ := own_corr hB r2 k a h2 (by omega) g4
  have g1' : own_run cs hi r1 (1, 0) = (Int32.ofNat k, a) := g1
  have g2' : own_pc b0 b1 bl r1 2 = Int32.ofNat k * 2 + a := g2
  rw [g1', g2']
  refine ⟨(own_sh' (by omega) g4).2.symm, ?_⟩
  show (own_run cs hi r2 (Int32.ofNat k, a)).1 = _
  rw [q1, q2]
  exact (own_sh' (by omega) q4).2.symm
theorem own_segb {ts : List Int32} (h : ∀ c ∈ ts, ¬ c < 0 ∧ ¬ (65535 : Int32) < c) (o l : Nat) : ∀ c ∈ own_seg ts o l, ¬ c < 0 ∧ ¬ (65535 : Int32) < c := fun c hc => by
  obtain ⟨j, -, rfl⟩ := List.mem_map.mp hc
  exact own_tb h _
theorem own_segl (ts : List Int32) (o l : Nat) : (own_seg ts o l).length = l := by simp [own_seg]


theorem own_safeNull {Z : State} {EL : List (String × Nat)} {vm : Vm} {h : Heap} {x : Addr} (hal : Z.vm.Alike vm) (E : exa0 Z h x) (F : fld1 Z h x .null) : Safe Z EL vm h x := fun B => by
  obtain ⟨p, -, u, a, -, q, -, G, rfl | rfl⟩ := B
  · obtain ⟨cell, cf, k, i, f, h1, h2, -, -, -, -, h7⟩ := F
    cases (show h[q.sa]? = some q.sC from G.ha).symm.trans h1
    obtain ⟨cS, ⟨⟨-, -, -, ⟨c1, k1, i1, f1, -⟩, -, -, -, v1, -⟩, -⟩, -⟩ := G
    obtain ⟨k3, e3, -⟩ := State.fieldFound?_setVm (s := Z) hal h2
    have e4 := (show (Wst Z vm h).fieldFound? _ _ _ = _ from e3).symm.trans f1
    simp only [Option.some.injEq, Prod.mk.injEq] at e4
    rw [← e4.2.2.2, h7] at v1
    simp at v1
  · obtain ⟨cell, k, e1, e2, e3, -, -⟩ := E
    cases (show h[q.sd]? = some q.SA from G.hd).symm.trans e1
    obtain ⟨cS, -, -, f, -⟩ := G
    have f' : vm.findClass "[B" = some q.SA.cls := f
    rw [hal.findClass] at f'
    exact ids_ne f' e2 (by decide) rfl
theorem own_i2c {c : Int32} (h : ¬ c < 0 ∧ ¬ (65535 : Int32) < c) : c.toUInt32.toUInt16.toUInt32.toInt32 = c := Value.int.inj (StrChars.narrow_ch h.1 h.2)
theorem own_uc (u : UInt16) : (u.toUInt32.toInt32).toInt = u.toNat := by
  have hu := u.toNat_lt
  show ((u.toUInt32).toBitVec).toInt = _
  rw [BitVec.toInt_eq_toNat_of_lt (by show 2 * u.toUInt32.toNat < 2 ^ 32; rw [UInt16.toNat_toUInt32]; omega)]
  show ((u.toUInt32.toNat : Nat) : Int) = _
  rw [UInt16.toNat_toUInt32]
theorem own_ucb (u : UInt16) : ¬ u.toUInt32.toInt32 < 0 ∧ ¬ (65535 : Int32) < u.toUInt32.toInt32 := by
  have e := own_uc u
  have hu := u.toNat_lt
  have e1 : (65535 : Int32).toInt = 65535 := by decide
  rw [Int32.lt_iff_toInt_lt, Int32.lt_iff_toInt_lt, e, e1, Int32.toInt_zero]; omega
theorem own_f1b (x : Int32) : ¬ own_f1 x < 0 ∧ ¬ (65535 : Int32) < own_f1 x := by
  unfold own_f1
  split
  · decide
  · split
    · decide
    · exact own_ucb _
theorem own_n1 (x : Int32) : nar .char (own_f1 x) = own_f1 x := own_i2c (own_f1b x)
theorem own_nb {b : Int32} (h : ¬ b < 0 ∧ ¬ (65535 : Int32) < b) : nar .char b = b := own_i2c h
theorem own_m7 (x : Int32) : ∃ j : Fin 8, (x &&& (7 : Int32)) = Int32.ofNat j.val := by
  have e := Jvm.Kit.i32_mask x 7 (k := 3) (by decide) (by decide)
  have hb : 0 ≤ (x &&& 7).toInt ∧ (x &&& 7).toInt < 8 := by rw [e]; omega
  refine ⟨⟨(x &&& 7).toInt.toNat, by omega⟩, Int32.toInt_inj.mp ?_⟩
  show (x &&& 7).toInt = (Int32.ofNat (x &&& 7).toInt.toNat).toInt
  rw [own_of _ (show (x &&& 7).toInt.toNat ≤ 4000 by omega)]; omega
theorem own_o (x : Int32) : ∃ n, n ≤ 4 ∧ (x &&& (7 : Int32)) % (5 : Int32) = Int32.ofNat n := by
  obtain ⟨j, e⟩ := own_m7 x
  have q : ∀ j : Fin 8, ∃ n : Fin 5, Int32.ofNat j.val % (5 : Int32) = Int32.ofNat n.val := by decide +kernel
  obtain ⟨n, hn⟩ := q j
  exact ⟨n.val, by omega, by rw [e]; exact hn⟩
theorem own_l (x : Int32) {o : Nat} (ho : o ≤ 4) : ∃ n, o + n ≤ 4 ∧ (x &&& (7 : Int32)) % ((5 : Int32) - Int32.ofNat o) = Int32.ofNat n := by
  obtain ⟨j, e⟩ := own_m7 x
  have q : ∀ j : Fin 8, ∀ o : Fin 5, ∃ n : Fin 5, o.val + n.val ≤ 4 ∧ Int32.ofNat j.val % ((5 : Int32) - Int32.ofNat o.val) = Int32.ofNat n.val := by decide +kernel
  obtain ⟨n, hn⟩ := q j ⟨o, by omega⟩
  exact ⟨n.val, hn.1, by rw [e]; exact hn.2⟩
theorem own_nz {o : Nat} (ho : o ≤ 4) : ¬ ((5 : Int32) - Int32.ofNat o) = 0 := by
  have q : ∀ o : Fin 5, ¬ ((5 : Int32) - Int32.ofNat o.val) = 0 := by decide +kernel
  exact q ⟨o, by omega⟩
theorem own_mx {b : Int32} (h : ¬ b < 0) : own_f19 0 b = b := by
  unfold own_f19; split
  · rfl
  · rename_i q
    apply Int32.toInt_inj.mp
    rw [Int32.lt_iff_toInt_lt, Int32.toInt_zero] at *
    omega
theorem own_hg1 {b : Int32} (h : ¬ b < 0 ∧ ¬ (65535 : Int32) < b) : own_hg [b] = b := by
  show nar .char ((own_f19 0 b).toUInt32.toUInt16.toUInt32.toInt32) = b
  rw [own_mx h.1, own_i2c h]; exact own_i2c h
theorem own_hg2 {a b : Int32} (h : ¬ a < 0 ∧ ¬ (65535 : Int32) < a) (h' : ¬ b < 0 ∧ ¬ (65535 : Int32) < b) : own_hg [a, b] = own_f19 a b := by
  show nar .char ((own_f19 ((own_f19 0 a).toUInt32.toUInt16.toUInt32.toInt32) b).toUInt32.toUInt16.toUInt32.toInt32) = _
  have q : ¬ own_f19 a b < 0 ∧ ¬ (65535 : Int32) < own_f19 a b := by unfold own_f19; split <;> assumption
  rw [own_mx h.1, own_i2c h, own_i2c q]; exact own_i2c q
theorem own_hB0 {b0 b1 bl : Int32} (hbl : bl = 0) (c : Int32) : (((¬ bl < 1 ∧ c = b0) ∨ (¬ bl < 2 ∧ c = b1)) ↔ (¬ own_hg [] < c ∧ ¬ own_xi c [] < 0)) := by
  subst hbl
  constructor
  · rintro (⟨h, -⟩ | ⟨h, -⟩) <;> exact absurd (by decide) h
  · rintro ⟨-, h⟩; exact absurd (show own_xi c [] < 0 from (by decide : (-1 : Int32) < 0)) h
theorem own_hB1 {b0 b1 bl : Int32} (hbl : bl = 1) (hb : ¬ b0 < 0 ∧ ¬ (65535 : Int32) < b0) (c : Int32) : (((¬ bl < 1 ∧ c = b0) ∨ (¬ bl < 2 ∧ c = b1)) ↔ (¬ own_hg [b0] < c ∧ ¬ own_xi c [b0] < 0)) := by
  subst hbl; rw [own_hg1 hb]
  constructor
  · rintro (⟨-, rfl⟩ | ⟨h, -⟩)
    · refine ⟨Int32.lt_irrefl, ?_⟩
      show ¬ (if c = c then (0 : Int32) else -1) < 0
      rw [if_pos rfl]; decide
    · exact absurd (by decide) h
  · rintro ⟨-, h⟩
    by_cases q : b0 = c
    · exact Or.inl ⟨by decide, q.symm⟩
    · exact absurd (show (if b0 = c then (0 : Int32) else -1) < 0 from by rw [if_neg q]; decide) h
theorem own_hB2 {b0 b1 bl : Int32} (hbl : ¬ bl < 1 ∧ ¬ bl < 2) (hb : ¬ b0 < 0 ∧ ¬ (65535 : Int32) < b0) (hb' : ¬ b1 < 0 ∧ ¬ (65535 : Int32) < b1) (c : Int32) : (((¬ bl < 1 ∧ c = b0) ∨ (¬ bl < 2 ∧ c = b1)) ↔ (¬ own_hg [b0, b1] < c ∧ ¬ own_xi c [b0, b1] < 0)) := by
  rw [own_hg2 hb hb']
  have m0 : ¬ own_f19 b0 b1 < b0 ∧ ¬ own_f19 b0 b1 < b1 := by
    unfold own_f19; split
    · rename_i q; rw [Int32.lt_iff_toInt_lt, Int32.lt_iff_toInt_lt] at *; omega
    · rename_i q; rw [Int32.lt_iff_toInt_lt, Int32.lt_iff_toInt_lt] at *; omega
  have x0 : own_xi c [b0, b1] = if b0 = c then 0 else if b1 = c then 1 else -1 := rfl
  rw [x0]
  constructor
  · rintro (⟨-, rfl⟩ | ⟨-, rfl⟩)
    · exact ⟨m0.1, by rw [if_pos rfl]; decide⟩
    · refine ⟨m0.2, ?_⟩
      split
      · decide
      · rw [if_pos rfl]; decide
  · rintro ⟨-, h⟩
    by_cases q : b0 = c
    · exact Or.inl ⟨hbl.1, q.symm⟩
    · by_cases q' : b1 = c
      · exact Or.inr ⟨hbl.2, q'.symm⟩
      · exact absurd (show (if b0 = c then (0 : Int32) else if b1 = c then 1 else -1) < 0 from by rw [if_neg q, if_neg q']; decide) h
theorem own_bl {bl x : Int32} (ebl : bl = (x &&& (3 : Int32))) (h0 : ¬ bl = 0) (h1 : ¬ bl = 1) : ¬ bl < 1 ∧ ¬ bl < 2 := by
  subst ebl
  have e := Jvm.Kit.i32_mask x 3 (k := 2) (by decide) (by decide)
  have h : (x &&& 3).toInt = 0 ∨ (x &&& 3).toInt = 1 ∨ (x &&& 3).toInt = 2 ∨ (x &&& 3).toInt = 3 := by rw [e]; omega
  rcases h with h | h | h | h
  · exact absurd (Int32.toInt_inj.mp (h.trans (by decide))) h0
  · exact absurd (Int32.toInt_inj.mp (h.trans (by decide))) h1
  · rw [show (x &&& 3) = 2 from Int32.toInt_inj.mp (h.trans (by decide))]; decide
  · rw [show (x &&& 3) = 3 from Int32.toInt_inj.mp (h.trans (by decide))]; decide

theorem own_eqInt {args : Array Value} {s : State} {t : Term} {k : Int32} (h : (Jvm.Cond.eq t (Term.int k)).value args s none s [] = some true) : t.eval args s none [] s = some (.int k) := by
  obtain ⟨x, y, hx, hy, k1, k2⟩ := cmp_v (Or.inl h)
  have e1 : Term.eval args s none [] s (.int k) = some (.int k) := rfl
  obtain rfl : y = .int k := by
    have := hy.symm.trans e1; exact Option.some.inj this
  obtain ⟨z, rfl⟩ : ∃ z, x = .int z := k2
  rw [hx]
  simp [Cond.value, hx, e1] at h
  rw [h]

theorem own_up {p : Program} {l : Launch} {e : Env} {R : Room} {s : State} {m : MethodId} {args : Array Value} {below : List Frame} {meth : Method} {c : Code} {T : State} {L : List Loc} {k n k' n' : Nat} (X : Stand p l e R s m args below meth c T L k n) (hk : k ≤ k') (hn : n ≤ n') : Stand p l e R s m args below meth c T L k' n' := { X with same := X.same.mono hk hn }
def Q0 (n0 : Nat) (v : Option Value) (h : Heap) (L : List Loc) : Prop := v = some (.int 1) ∧ Fr n0 L
theorem ef_0 (m : MethodId) (x0 x1 x2 : Int64) (x3 : Int32) : entryFrame m #[(.long x0), (.long x1), (.long x2), (.int x3)] maxLocals = mkF m 0 #[.val (.long x0), .second, .val (.long x1), .second, .val (.long x2), .second, iv x3, un, un, un, un, un, un, un, un, un, un, un, un, un, un, un] [] := by first | (simp [entryFrame, mkF, argsToLocals, Value.category, maxLocals]; done) | rfl
theorem rm0 (l : Launch) (Z : State) (a0 : Array Value) (hw : ∀ d ∈ tables_1, d.before a0 Z = true) (ws : List Jvm.Cond) (q1 q2 q3 : Int64) (p4 cz : Int32) (fm : Value) (h0 : Heap) (n0 : Nat) (Z0 : n0 ≤ h0.size) (SCS : sta4 Z h0 (.int cz)) (SFM : sta3 Z h0 fm) (SAD : sta0 Z h0 (.int 1)) (SHI : sta1 Z h0 (.int 0)) (SLO : sta2 Z h0 (.int 8)) (hCS : ¬ (cz = (0 : Int32))) (hFM : fm.isRef = true) :
    MetFree l x (head1 (Jvm.Cond.code x code maxLocals ret :: ws) room_1) (fun a U => a = #[(.long q1), (.long q2), (.long q3), (.int p4)] ∧ Z.Warmed39 U.vm ∧ U.heap = h0 ∧ CHv Z EL U.vm h0) (fun _ _ _ _ _ => True) (fun _ U o U' => ∃ v L, o = .returned v ∧ Q0 n0 v U'.heap L ∧ ReturnedEndW U o U' L room_1.cells room_1.slots) := by
  refine MetFree.of_bodySF (plainFor_of_name pn_0) hisR ?_
  intro p e s m args below meth c s₁ Bd hml0 hP hK
  obtain ⟨rfl, hZ, hh, hCH⟩ := hP
  have hS0 : s.Since s.vm 0 := (State.WarmedH.refl s).since 0
  have CR0 : CHr Z EL s.vm h0 s.vm h0 := CHr.refl hCH
  have hx := Bd.exec
  have hby := Bd.bytes
  have hml : c.maxLocals = 22 := hml0
  have hown : s.vm.findClass "com/example/pourcode/pourcode/input/LineCounterCountPinLaw" = some m.cls := findClass_of_methodNamed Bd.named
  have X0 : Stand p l e room_1 s m #[(.long q1), (.long q2), (.long q3), (.int p4)] below meth c s₁ [] 0 0 := Stand.of_body Bd
  have e0 : s₁.heap = h0 := by rw [← hh, Bd.state]; rfl
  have N0 := Fr.nil n0
  obtain ⟨S0, hSt⟩ : ∃ z, z = (s₁.setTop (entryFrame m #[(.long q1), (.long q2), (.long q3), (.int p4)] maxLocals)) := ⟨_, rfl⟩
  have pre0 : PQ p e below m S0 s₁ 0 #[.val (.long q1), .second, .val (.long q2), .second, .val (.long q3), .second, iv p4, un, un, un, un, un, un, un, un, un, un, un, un, un, un, un] [] := by
    subst hSt; exact fun t k => castTop (ef_0 m q1 q2 q3 p4) k
  have hEL : EW Z a0 EL := own_EW hw
  have wS : ∀ a ∈ Bundle.stringAtoms, a.before a0 Z = true := fun d hd => hw d ((by decide +kernel : ∀ d ∈ Bundle.stringAtoms, d ∈ tables_1) d hd)
  have pre1 : PQ p e below m S0 s₁ 2 #[.val (.long q1), .second, .val (.long q2), .second, .val (.long q3), .second, iv p4, un, un, un, un, un, un, un, un, un, un, un, un, un, un, un] [(.int (q1.toInt32))] := by
    intro t kt
    refine pre0 t ?_
    refine XS.lloadN X0.here hx rfl (hb hby at_0) rfl ?_
    show SQ p e below m s₁ 1 #[.val (.long q1), .second, .val (.long q2), .second, .val (.long q3), .second, iv p4, un, un, un, un, un, un, un, un, un, un, un, un, un, un, un] [(.long q1)] _
    refine XS.l2i X0.here hx rfl (hb hby at_1) rfl ?_
    exact kt
  obtain ⟨_, _, ⟨T2, L2, k2, n2⟩, -, X2, ⟨Lc2, hQ2, l2, y2, z2⟩, st2⟩ := Jvm.LawKit.callS X0 hx (y := mn9) hown (mw hZ hw 0 rfl) (mw hZ hw 1 rfl) (mw hZ hw 2 rfl) (mw hZ hw 3 rfl) (by decide) (backOf (W := 0) (rm1 l Z a0 hw [] (q1.toInt32) h0 n0) hZ (wi hw 3 rfl) (wi hw 2 rfl) (by decide) (by decide)) (g := (mkF m 2 #[.val (.long q1), .second, .val (.long q2), .second, .val (.long q3), .second, iv p4, un, un, un, un, un, un, un, un, un, un, un, un, un, un, un] [(.int (q1.toInt32))])) rfl (by rw [hml]; rfl) (argsL := [(.int (q1.toInt32))]) (rest := []) (lenOf pd_24 rfl) rfl (by show 2 * 0 + _ ≤ _; exact Nat.le_of_eq rfl) (hb hby at_2) (fun _ _ => ⟨rfl, e0, (Nat.zero_le _), (Nat.zero_le _)⟩)
  dsimp only [Pt.U, Pt.locs, Pt.cells, Pt.slots] at X2 l2 y2 z2 st2 hQ2
  subst l2 y2 z2
  obtain ⟨rfl, N2q, e2⟩ := hQ2
  have N2 := Fr.app N0 N2q
  have pre2 : PQ p e below m S0 T2 5 #[.val (.long q1), .second, .val (.long q2), .second, .val (.long q3), .second, iv p4, un, un, un, un, un, un, un, un, un, un, un, un, un, un, un] [(.int (own_f1 (q1.toInt32)))] := fun t kt => pre1 t (st2 _ kt)
  have pre3 : PQ p e below m S0 T2 7 #[.val (.long q1), .second, .val (.long q2), .second, .val (.long q3), .second, iv p4, iv (own_f1 (q1.toInt32)), un, un, un, un, un, un, un, un, un, un, un, un, un, un] [] := by
    intro t kt
    refine pre2 t ?_
    refine ow_istore X2.here hx hby at_5 (l' := #[.val (.long q1), .second, .val (.long q2), .second, .val (.long q3), .second, iv p4, iv (own_f1 (q1.toInt32)), un, un, un, un, un, un, un, un, un, un, un, un, un, un]) rfl ?_
    exact kt
  obtain ⟨b0, eb0⟩ : ∃ z, z = (own_f1 (q1.toInt32)) := ⟨_, rfl⟩
  have hb0 : ¬ b0 < 0 ∧ ¬ (65535 : Int32) < b0 := by rw [eb0]; exact own_f1b _
  rw [← eb0] at pre3
  have pre4 : PQ p e below m S0 T2 12 #[.val (.long q1), .second, .val (.long q2), .second, .val (.long q3), .second, iv p4, iv b0, un, un, un, un, un, un, un, un, un, un, un, un, un, un] [(.int (((q1.toUInt64 >>> ((32 : Int32) &&& 0x3f).toInt64.toUInt64).toInt64).toInt32))] := by
    intro t kt
    refine pre3 t ?_
    refine XS.lloadN X2.here hx rfl (hb hby at_7) rfl ?_
    show SQ p e below m T2 8 #[.val (.long q1), .second, .val (.long q2), .second, .val (.long q3), .second, iv p4, iv b0, un, un, un, un, un, un, un, un, un, un, un, un, un, un] [(.long q1)] _
    refine ow_bipush X2.here hx hby at_8 (v := 32) rfl ?_
    refine XS.lushr X2.here hx rfl (hb hby at_10) rfl ?_
    show SQ p e below m T2 11 #[.val (.long q1), .second, .val (.long q2), .second, .val (.long q3), .second, iv p4, iv b0, un, un, un, un, un, un, un, un, un, un, un, un, un, un] [(.long ((q1.toUInt64 >>> ((32 : Int32) &&& 0x3f).toInt64.toUInt64).toInt64))] _
    refine XS.l2i X2.here hx rfl (hb hby at_11) rfl ?_
    exact kt
  obtain ⟨_, _, ⟨T5, L5, k5, n5⟩, -, X5, ⟨Lc5, hQ5, l5, y5, z5⟩, st5⟩ := Jvm.LawKit.callS X2 hx (y := mn9) hown (mw hZ hw 0 rfl) (mw hZ hw 1 rfl) (mw hZ hw 2 rfl) (mw hZ hw 3 rfl) (by decide) (backOf (W := 0) (rm1 l Z a0 hw [] (((q1.toUInt64 >>> ((32 : Int32) &&& 0x3f).toInt64.toUInt64).toInt64).toInt32) h0 n0) hZ (wi hw 3 rfl) (wi hw 2 rfl) (by decide) (by decide)) (g := (mkF m 12 #[.val (.long q1), .second, .val (.long q2), .second, .val (.long q3), .second, iv p4, iv b0, un, un, un, un, un, un, un, un, un, un, un, un, un, un] [(.int (((q1.toUInt64 >>> ((32 : Int32) &&& 0x3f).toInt64.toUInt64).toInt64).toInt32))])) rfl (by rw [hml]; rfl) (argsL := [(.int (((q1.toUInt64 >>> ((32 : Int32) &&& 0x3f).toInt64.toUInt64).toInt64).toInt32))]) (rest := []) (lenOf pd_24 rfl) rfl (by show 2 * 0 + _ ≤ _; exact Nat.le_of_eq rfl) (hb hby at_12) (fun _ _ => ⟨rfl, e2, (Nat.zero_le _), (Nat.zero_le _)⟩)
  dsimp only [Pt.U, Pt.locs, Pt.cells, Pt.slots] at X5 l5 y5 z5 st5 hQ5
  subst l5 y5 z5
  obtain ⟨rfl, N5q, e5⟩ := hQ5
  have N5 := Fr.app N2 N5q
  have pre5 : PQ p e below m S0 T5 15 #[.val (.long q1), .second, .val (.long q2), .second, .val (.long q3), .second, iv p4, iv b0, un, un, un, un, un, un, un, un, un, un, un, un, un, un] [(.int (own_f1 (((q1.toUInt64 >>> ((32 : Int32) &&& 0x3f).toInt64.toUInt64).toInt64).toInt32)))] := fun t kt => pre4 t (st5 _ kt)
  have pre6 : PQ p e below m S0 T5 17 #[.val (.long q1), .second, .val (.long q2), .second, .val (.long q3), .second, iv p4, iv b0, iv (own_f1 (((q1.toUInt64 >>> ((32 : Int32) &&& 0x3f).toInt64.toUInt64).toInt64).toInt32)), un, un, un, un, un, un, un, un, un, un, un, un, un] [] := by
    intro t kt
    refine pre5 t ?_
    refine ow_istore X5.here hx hby at_15 (l' := #[.val (.long q1), .second, .val (.long q2), .second, .val (.long q3), .second, iv p4, iv b0, iv (own_f1 (((q1.toUInt64 >>> ((32 : Int32) &&& 0x3f).toInt64.toUInt64).toInt64).toInt32)), un, un, un, un, un, un, un, un, un, un, un, un, un]) rfl ?_
    exact kt
  obtain ⟨b1, eb1⟩ : ∃ z, z = (own_f1 (((q1.toUInt64 >>> ((32 : Int32) &&& 0x3f).toInt64.toUInt64).toInt64).toInt32)) := ⟨_, rfl⟩
  have hb1 : ¬ b1 < 0 ∧ ¬ (65535 : Int32) < b1 := by rw [eb1]; exact own_f1b _
  rw [← eb1] at pre6
  have pre7 : PQ p e below m S0 T5 26 #[.val (.long q1), .second, .val (.long q2), .second, .val (.long q3), .second, iv p4, iv b0, iv b1, iv (((p4.toUInt32 >>> ((12 : Int32) &&& 31).toUInt32).toInt32) &&& (3 : Int32)), un, un, un, un, un, un, un, un, un, un, un, un] [] := by
    intro t kt
    refine pre6 t ?_
    refine ow_iload X5.here hx hby at_17 rfl ?_
    refine ow_bipush X5.here hx hby at_19 (v := 12) rfl ?_
    refine XS.iushr X5.here hx rfl (hb hby at_21) rfl ?_
    show SQ p e below m T5 22 #[.val (.long q1), .second, .val (.long q2), .second, .val (.long q3), .second, iv p4, iv b0, iv b1, un, un, un, un, un, un, un, un, un, un, un, un, un] [(.int ((p4.toUInt32 >>> ((12 : Int32) &&& 31).toUInt32).toInt32))] _
    refine ow_iconst X5.here hx hby at_22 (v := 3) rfl ?_
    refine ow_iand X5.here hx hby at_23 ?_
    refine ow_istore X5.here hx hby at_24 (l' := #[.val (.long q1), .second, .val (.long q2), .second, .val (.long q3), .second, iv p4, iv b0, iv b1, iv (((p4.toUInt32 >>> ((12 : Int32) &&& 31).toUInt32).toInt32) &&& (3 : Int32)), un, un, un, un, un, un, un, un, un, un, un, un]) rfl ?_
    exact kt
  obtain ⟨bl, ebl⟩ : ∃ z, z = (((p4.toUInt32 >>> ((12 : Int32) &&& 31).toUInt32).toInt32) &&& (3 : Int32)) := ⟨_, rfl⟩
  rw [← ebl] at pre7
  obtain ⟨T76, h76, L76, vm76, k76, a76, cs, X76, e76, N76, K76, Z76, S76, mo76, hZ, hown, CR76, SCS_76, SFM_76, SAD_76, SHI_76, SLO_76, E76, SS76, hk, hB, pre76⟩ : ∃ (T' : State) (h' : Heap) (L' : List Loc) (vm' : Vm) (k' : Nat) (a' : Addr) (cs : List Int32), Stand p l e room_1 (s.setVm vm') m #[(.long q1), (.long q2), (.long q3), (.int p4)] below meth c T' L' 4 12 ∧ T'.heap = h' ∧ Fr n0 L' ∧ Keep h0 h' [] ∧ n0 ≤ h'.size ∧ s.Since vm' k' ∧ k' ≤ h'.size ∧ Z.Warmed39 (s.setVm vm').vm ∧ (s.setVm vm').vm.findClass "com/example/pourcode/pourcode/input/LineCounterCountPinLaw" = some m.cls ∧ CHr Z EL s.vm h0 vm' h' ∧ sta4 Z h' (.int cz) ∧ sta3 Z h' fm ∧ sta0 Z h' (.int 1) ∧ sta1 Z h' (.int 0) ∧ sta2 Z h' (.int 8) ∧ exa0 Z h' a' ∧ own_S Z h' a' cs ∧ cs.length ≤ 2 ∧ (∀ c : Int32, ¬ c < 0 ∧ ¬ (65535 : Int32) < c → (((¬ bl < 1 ∧ c = b0) ∨ (¬ bl < 2 ∧ c = b1)) ↔ (¬ own_hg cs < c ∧ ¬ own_xi c cs < 0))) ∧ PQ p e below m S0 T' 76 #[.val (.long q1), .second, .val (.long q2), .second, .val (.long q3), .second, iv p4, iv b0, iv b1, iv bl, rv a', un, un, un, un, un, un, un, un, un, un, un] [] := by
    have pre97 : PQ p e below m S0 T5 28 #[.val (.long q1), .second, .val (.long q2), .second, .val (.long q3), .second, iv p4, iv b0, iv b1, iv bl, un, un, un, un, un, un, un, un, un, un, un, un] [(.int bl)] := by
      intro t kt
      refine pre7 t ?_
      refine ow_iload X5.here hx hby at_26 rfl ?_
      exact kt
    by_cases hc28 : bl = (0 : Int32)
    · have pre98 : PQ p e below m S0 T5 31 #[.val (.long q1), .second, .val (.long q2), .second, .val (.long q3), .second, iv p4, iv b0, iv b1, iv bl, un, un, un, un, un, un, un, un, un, un, un, un] [] := by
        intro t kt
        refine pre97 t ?_
        refine ow_ifNo X5.here hx hby at_28 ((if0 _ _).trans (teq hc28).2) ?_
        exact kt
      obtain ⟨a99, T99, h99, k99, b99, kb99, X99, e99, E99, hS99, hk99, hZ, hown, A99, C99, F99, V99, la99, lb99, CQ99, Li99, sf99, st99⟩ := ldcCH (s := s) (vm0 := s.vm) (text := own_t4) X5 hx hZ hown (wi hw 4 rfl) wS e5 hS0 (Nat.zero_le _) hEL own_mem4 CR0.1 (vs := (own_cs4.map fun c => c.toInt8.toInt32).map Value.int) (z := (0 : Int32)) own_ht4 (by decide) (by decide +kernel) (g := (mkF m 31 #[.val (.long q1), .second, .val (.long q2), .second, .val (.long q3), .second, iv p4, iv b0, iv b1, iv bl, un, un, un, un, un, un, un, un, un, un, un, un] [])) rfl (hb hby at_31) (n := 0) (by decide +kernel) (by decide) (by decide) (by decide)
      have K99 := (Keep.refl h0 []).ext E99
      have Z99 := Nat.le_trans Z0 E99.1
      have mo99_0 := Nat.le_trans (Nat.zero_le _) E99.1
      have SCS_100 := SCS.ext E99
      have SFM_101 := SFM.ext E99
      have SAD_102 := SAD.ext E99
      have SHI_103 := SHI.ext E99
      have SLO_104 := SLO.ext E99
      have CR99 := CR0.trans CQ99
      have pre99 : PQ p e below m S0 T99 33 #[.val (.long q1), .second, .val (.long q2), .second, .val (.long q3), .second, iv p4, iv b0, iv b1, iv bl, un, un, un, un, un, un, un, un, un, un, un, un] [(.ref a99)] := fun t kt => pre98 t (st99 _ kt)
      have pre105 : PQ p e below m S0 T99 76 #[.val (.long q1), .second, .val (.long q2), .second, .val (.long q3), .second, iv p4, iv b0, iv b1, iv bl, rv a99, un, un, un, un, un, un, un, un, un, un, un] [] := by
        intro t kt
        refine pre99 t ?_
        refine ow_astore X99.here hx hby at_33 rfl (l' := #[.val (.long q1), .second, .val (.long q2), .second, .val (.long q3), .second, iv p4, iv b0, iv b1, iv bl, rv a99, un, un, un, un, un, un, un, un, un, un, un]) rfl ?_
        refine ow_goto X99.here hx hby at_35 (pc' := 76) (by decide) (by decide) ?_
        exact kt
      have VE : Arv Z h99 b99 kb99 .byte (0 : Int32) [] (.int 0) := by
        have q := V99
        rw [List.eq_nil_of_length_eq_zero own_len4] at q
        exact q
      have SS : own_S Z h99 a99 [] := ⟨_, _, A99, F99, Or.inl ⟨C99, VE, fun c hc => absurd hc List.not_mem_nil⟩⟩
      exact ⟨_, _, _, T99.vm, _, a99, [], own_up X99 (by decide) (by decide), e99, N5, K99, Z99, hS99, hk99, hZ, hown, CR99, SCS_100, SFM_101, SAD_102, SHI_103, SLO_104, A99, SS, (by simp), (fun c _ => own_hB0 hc28 c), pre105⟩
    · have pre106 : PQ p e below m S0 T5 38 #[.val (.long q1), .second, .val (.long q2), .second, .val (.long q3), .second, iv p4, iv b0, iv b1, iv bl, un, un, un, un, un, un, un, un, un, un, un, un] [] := by
        intro t kt
        refine pre97 t ?_
        refine ow_ifYes X5.here hx hby at_28 ((if0 _ _).trans (feq hc28).2) (pc' := 38) (by decide) (by decide) ?_
        exact kt
      have pre107 : PQ p e below m S0 T5 41 #[.val (.long q1), .second, .val (.long q2), .second, .val (.long q3), .second, iv p4, iv b0, iv b1, iv bl, un, un, un, un, un, un, un, un, un, un, un, un] [(.int 1), (.int bl)] := by
        intro t kt
        refine pre106 t ?_
        refine ow_iload X5.here hx hby at_38 rfl ?_
        refine ow_iconst X5.here hx hby at_40 (v := 1) rfl ?_
        exact kt
      by_cases hc41 : bl = (1 : Int32)
      · have pre108 : PQ p e below m S0 T5 44 #[.val (.long q1), .second, .val (.long q2), .second, .val (.long q3), .second, iv p4, iv b0, iv b1, iv bl, un, un, un, un, un, un, un, un, un, un, un, un] [] := by
          intro t kt
          refine pre107 t ?_
          refine ow_icmpNo X5.here hx hby at_41 (teq hc41).2 ?_
          exact kt
        have pre109 : PQ p e below m S0 T5 46 #[.val (.long q1), .second, .val (.long q2), .second, .val (.long q3), .second, iv p4, iv b0, iv b1, iv bl, un, un, un, un, un, un, un, un, un, un, un, un] [(.int b0)] := by
          intro t kt
          refine pre108 t ?_
          refine ow_iload X5.here hx hby at_44 rfl ?_
          exact kt
        by_cases hE : own_f10 b0 = 0
        · skip
          obtain ⟨_, _, ⟨T110, L110, k110, n110⟩, -, X110, ⟨Lc110, hQ110, l110, y110, z110⟩, st110⟩ := Jvm.LawKit.callS X5 hx (y := mn35) hown (mw hZ hw 55 rfl) (mw hZ hw 56 rfl) (mw hZ hw 5 rfl) (mw hZ hw 57 rfl) (by decide) (backOf (W := 0) (rm9_1 l Z a0 hw [] b0 cz h0 n0 Z0 SCS SAD SHI SLO (hCS) (hE)) hZ (wi hw 57 rfl) (wi hw 5 rfl) (by decide) (by decide)) (g := (mkF m 46 #[.val (.long q1), .second, .val (.long q2), .second, .val (.long q3), .second, iv p4, iv b0, iv b1, iv bl, un, un, un, un, un, un, un, un, un, un, un, un] [(.int b0)])) rfl (by rw [hml]; rfl) (argsL := [(.int b0)]) (rest := []) (lenOf pd_27 rfl) rfl (by show 2 * 0 + _ ≤ _; exact Nat.le_of_eq rfl) (hb hby at_46) (fun _ _ => ⟨rfl, e5, (by decide : 0 + 2 ≤ _), (by decide : 0 + 6 ≤ _)⟩)
          dsimp only [Pt.U, Pt.locs, Pt.cells, Pt.slots] at X110 l110 y110 z110 st110 hQ110
          subst l110 y110 z110
          obtain ⟨az_110, tz_110, kz_110, rfl, N110q, KC110, P110_0, P110_1, P110_2, P110_3, R110_0, R110_1⟩ := hQ110
          have N110 := Fr.app N5 N110q
          have Z110 : n0 ≤ T110.heap.size := Nat.le_trans Z0 KC110.1
          have mo110_0 := Nat.le_trans (Nat.zero_le _) KC110.1
          have CR110 := CR0.trans (CHr.keep KC110 sf0 CR0.1)
          have K110 := (Keep.refl h0 []).trans KC110 all0
          have SCS_111 := own_stak SCS KC110 ns0
          have SFM_112 := own_stak SFM KC110 ns0
          have SAD_113 := own_stak SAD KC110 ns0
          have SHI_114 := own_stak SHI KC110 ns0
          have SLO_115 := own_stak SLO KC110 ns0
          have E_az_110_110 : exa0 Z T110.heap az_110 := P110_0
          have Fv_az_110_110 : fld1 Z T110.heap az_110 (.ref tz_110) := P110_1
          have Fc_az_110_110 : fld0 Z T110.heap az_110 (.int 1) := P110_2
          have V_tz_110_110 : Arv Z T110.heap tz_110 kz_110 .byte (2 : Int32) [(.int (own_lo b0)), (.int (own_hi b0))] (.int 0) := P110_3
          have pre110 : PQ p e below m S0 T110 49 #[.val (.long q1), .second, .val (.long q2), .second, .val (.long q3), .second, iv p4, iv b0, iv b1, iv bl, un, un, un, un, un, un, un, un, un, un, un, un] [(.ref az_110)] := fun t kt => pre109 t (st110 _ kt)
          have pre116 : PQ p e below m S0 T110 76 #[.val (.long q1), .second, .val (.long q2), .second, .val (.long q3), .second, iv p4, iv b0, iv b1, iv bl, rv az_110, un, un, un, un, un, un, un, un, un, un, un] [] := by
            intro t kt
            refine pre110 t ?_
            refine ow_astore X110.here hx hby at_49 rfl (l' := #[.val (.long q1), .second, .val (.long q2), .second, .val (.long q3), .second, iv p4, iv b0, iv b1, iv bl, rv az_110, un, un, un, un, un, un, un, un, un, un, un]) rfl ?_
            refine ow_goto X110.here hx hby at_51 (pc' := 76) (by decide) (by decide) ?_
            exact kt
          have hbs : ∀ c ∈ [b0], ¬ c < 0 ∧ ¬ (65535 : Int32) < c := fun c hc => by
            simp only [List.mem_cons, List.not_mem_nil, or_false] at hc
            subst hc; exact hb0
          have SS : own_S Z T110.heap az_110 [b0] := ⟨_, _, E_az_110_110, Fv_az_110_110, Or.inr ⟨by simp, Fc_az_110_110, V_tz_110_110, hbs⟩⟩
          exact ⟨_, _, _, s.vm, _, az_110, [b0], own_up X110 (by decide) (by decide), rfl, N110, K110, Z110, hS0, mo110_0, hZ, hown, CR110, SCS_111, SFM_112, SAD_113, SHI_114, SLO_115, E_az_110_110, SS, (by simp), (fun c _ => own_hB1 hc41 hb0 c), pre116⟩
        · skip
          obtain ⟨_, _, ⟨T117, L117, k117, n117⟩, -, X117, ⟨Lc117, hQ117, l117, y117, z117⟩, st117⟩ := Jvm.LawKit.callS X5 hx (y := mn35) hown (mw hZ hw 55 rfl) (mw hZ hw 56 rfl) (mw hZ hw 5 rfl) (mw hZ hw 57 rfl) (by decide) (backOf (W := 0) (rm9_0 l Z a0 hw [] b0 cz h0 n0 Z0 SCS SAD SHI SLO (hCS) (hE)) hZ (wi hw 57 rfl) (wi hw 5 rfl) (by decide) (by decide)) (g := (mkF m 46 #[.val (.long q1), .second, .val (.long q2), .second, .val (.long q3), .second, iv p4, iv b0, iv b1, iv bl, un, un, un, un, un, un, un, un, un, un, un, un] [(.int b0)])) rfl (by rw [hml]; rfl) (argsL := [(.int b0)]) (rest := []) (lenOf pd_27 rfl) rfl (by show 2 * 0 + _ ≤ _; exact Nat.le_of_eq rfl) (hb hby at_46) (fun _ _ => ⟨rfl, e5, (by decide : 0 + 2 ≤ _), (by decide : 0 + 5 ≤ _)⟩)
          dsimp only [Pt.U, Pt.locs, Pt.cells, Pt.slots] at X117 l117 y117 z117 st117 hQ117
          subst l117 y117 z117
          obtain ⟨az_117, tz_117, kz_117, rfl, N117q, KC117, P117_0, P117_1, P117_2, P117_3, R117_0, R117_1⟩ := hQ117
          have N117 := Fr.app N5 N117q
          have Z117 : n0 ≤ T117.heap.size := Nat.le_trans Z0 KC117.1
          have mo117_0 := Nat.le_trans (Nat.zero_le _) KC117.1
          have CR117 := CR0.trans (CHr.keep KC117 sf0 CR0.1)
          have K117 := (Keep.refl h0 []).trans KC117 all0
          have SCS_118 := own_stak SCS KC117 ns0
          have SFM_119 := own_stak SFM KC117 ns0
          have SAD_120 := own_stak SAD KC117 ns0
          have SHI_121 := own_stak SHI KC117 ns0
          have SLO_122 := own_stak SLO KC117 ns0
          have E_az_117_117 : exa0 Z T117.heap az_117 := P117_0
          have Fv_az_117_117 : fld1 Z T117.heap az_117 (.ref tz_117) := P117_1
          have Fc_az_117_117 : fld0 Z T117.heap az_117 (.int 0) := P117_2
          have V_tz_117_117 : Arv Z T117.heap tz_117 kz_117 .byte (1 : Int32) [(.int (own_b b0))] (.int 0) := P117_3
          have pre117 : PQ p e below m S0 T117 49 #[.val (.long q1), .second, .val (.long q2), .second, .val (.long q3), .second, iv p4, iv b0, iv b1, iv bl, un, un, un, un, un, un, un, un, un, un, un, un] [(.ref az_117)] := fun t kt => pre109 t (st117 _ kt)
          have pre123 : PQ p e below m S0 T117 76 #[.val (.long q1), .second, .val (.long q2), .second, .val (.long q3), .second, iv p4, iv b0, iv b1, iv bl, rv az_117, un, un, un, un, un, un, un, un, un, un, un] [] := by
            intro t kt
            refine pre117 t ?_
            refine ow_astore X117.here hx hby at_49 rfl (l' := #[.val (.long q1), .second, .val (.long q2), .second, .val (.long q3), .second, iv p4, iv b0, iv b1, iv bl, rv az_117, un, un, un, un, un, un, un, un, un, un, un]) rfl ?_
            refine ow_goto X117.here hx hby at_51 (pc' := 76) (by decide) (by decide) ?_
            exact kt
          have hE255 : ¬ (255 : Int32) < b0 := fun q => hE (by unfold own_f10; rw [if_pos q])
          have hbs : ∀ c ∈ [b0], ¬ c < 0 ∧ ¬ (255 : Int32) < c := fun c hc => by
            simp only [List.mem_cons, List.not_mem_nil, or_false] at hc
            subst hc; exact ⟨hb0.1, hE255⟩
          have SS : own_S Z T117.heap az_117 [b0] := ⟨_, _, E_az_117_117, Fv_az_117_117, Or.inl ⟨Fc_az_117_117, V_tz_117_117, hbs⟩⟩
          exact ⟨_, _, _, s.vm, _, az_117, [b0], own_up X117 (by decide) (by decide), rfl, N117, K117, Z117, hS0, mo117_0, hZ, hown, CR117, SCS_118, SFM_119, SAD_120, SHI_121, SLO_122, E_az_117_117, SS, (by simp), (fun c _ => own_hB1 hc41 hb0 c), pre123⟩
      · have pre124 : PQ p e below m S0 T5 54 #[.val (.long q1), .second, .val (.long q2), .second, .val (.long q3), .second, iv p4, iv b0, iv b1, iv bl, un, un, un, un, un, un, un, un, un, un, un, un] [] := by
          intro t kt
          refine pre107 t ?_
          refine ow_icmpYes X5.here hx hby at_41 (feq hc41).2 (pc' := 54) (by decide) (by decide) ?_
          exact kt
        obtain ⟨T125, h125, X125, e125, E125, A125, D125, -, st125⟩ := newO X5 hx hZ hown (wi hw 105 rfl) (wi hw 6 rfl) (wi hw 5 rfl) e5 (g := (mkF m 54 #[.val (.long q1), .second, .val (.long q2), .second, .val (.long q3), .second, iv p4, iv b0, iv b1, iv bl, un, un, un, un, un, un, un, un, un, un, un, un] [])) rfl (hb hby at_54) (by decide) (by decide)
        obtain ⟨b125, g125⟩ : ∃ z, z = h0.size := ⟨_, rfl⟩
        have g_b125 : n0 ≤ b125 := Nat.le_trans Z0 (Nat.le_of_eq g125.symm)
        have sz_b125 : h0.size ≤ b125 := Nat.le_trans (Keep.refl h0 []).1 (Nat.le_of_eq g125.symm)
        rw [← g125] at A125 D125 st125
        have K125 := (Keep.refl h0 []).ext E125
        have Z125 := Nat.le_trans Z0 E125.1
        have mo125_0 := Nat.le_trans (Nat.zero_le _) E125.1
        have CR125 := CR0.trans (CHr.ext E125 CR0.1)
        have SCS_126 := SCS.ext E125
        have SFM_127 := SFM.ext E125
        have SAD_128 := SAD.ext E125
        have SHI_129 := SHI.ext E125
        have SLO_130 := SLO.ext E125
        have Fv_b125 : fld1 Z h125 b125 .null := D125 (Or.inr (wi hw 8 rfl)) (ty := (.array .byte)) (by decide)
        have Fc_b125 : fld0 Z h125 b125 (.int 0) := D125 (Or.inr (wi hw 9 rfl)) (ty := .byte) (by decide)
        have pre125 : PQ p e below m S0 T125 57 #[.val (.long q1), .second, .val (.long q2), .second, .val (.long q3), .second, iv p4, iv b0, iv b1, iv bl, un, un, un, un, un, un, un, un, un, un, un, un] [(.ref b125)] := fun t kt => pre124 t (st125 _ kt)
        have pre131 : PQ p e below m S0 T125 59 #[.val (.long q1), .second, .val (.long q2), .second, .val (.long q3), .second, iv p4, iv b0, iv b1, iv bl, un, un, un, un, un, un, un, un, un, un, un, un] [(.int 2), (.ref b125), (.ref b125)] := by
          intro t kt
          refine pre125 t ?_
          refine ow_dup X125.here hx hby at_57 rfl ?_
          refine ow_iconst X125.here hx hby at_58 (v := 2) rfl ?_
          exact kt
        obtain ⟨T132, h132, k132, X132, e132, E132, A132, st132⟩ := newP X125 hx hZ (wi hw 12 rfl) e125 (g := (mkF m 59 #[.val (.long q1), .second, .val (.long q2), .second, .val (.long q3), .second, iv p4, iv b0, iv b1, iv bl, un, un, un, un, un, un, un, un, un, un, un, un] [(.int 2), (.ref b125), (.ref b125)])) rfl (hb hby at_59) rfl (by decide) (cap := 2) (by decide) (by decide) (by decide) (by decide)
        obtain ⟨b132, g132⟩ : ∃ z, z = h125.size := ⟨_, rfl⟩
        have ne_b125_b132 : b125 ≠ b132 := Nat.ne_of_lt (Nat.lt_of_lt_of_le A125.lt (Nat.le_of_eq g132.symm))
        have g_b132 : n0 ≤ b132 := Nat.le_trans Z125 (Nat.le_of_eq g132.symm)
        have sz_b132 : h0.size ≤ b132 := Nat.le_trans K125.1 (Nat.le_of_eq g132.symm)
        rw [← g132] at A132 st132
        have K132 := K125.ext E132
        have Z132 := Nat.le_trans Z125 E132.1
        have mo132_0 := Nat.le_trans mo125_0 E132.1
        have CR132 := CR125.trans (CHr.ext E132 CR125.1)
        have SCS_133 := SCS_126.ext E132
        have SFM_134 := SFM_127.ext E132
        have SAD_135 := SAD_128.ext E132
        have SHI_136 := SHI_129.ext E132
        have SLO_137 := SLO_130.ext E132
        have A125_138 := A125.ext E132
        have Fv_b125_139 := Fv_b125.ext E132
        have Fc_b125_140 := Fc_b125.ext E132
        have V_b132 : Arv Z h132 b132 k132 .char (2 : Int32) [(.int 0), (.int 0)] (.int 0) := (Arv.new A132 (by decide)).pad (pad_rep [] (.int 0) 2)
        have pre132 : PQ p e below m S0 T132 61 #[.val (.long q1), .second, .val (.long q2), .second, .val (.long q3), .second, iv p4, iv b0, iv b1, iv bl, un, un, un, un, un, un, un, un, un, un, un, un] [(.ref b132), (.ref b125), (.ref b125)] := fun t kt => pre131 t (st132 _ kt)
        have pre141 : PQ p e below m S0 T132 65 #[.val (.long q1), .second, .val (.long q2), .second, .val (.long q3), .second, iv p4, iv b0, iv b1, iv bl, un, un, un, un, un, un, un, un, un, un, un, un] [(.int b0), (.int 0), (.ref b132), (.ref b132), (.ref b125), (.ref b125)] := by
          intro t kt
          refine pre132 t ?_
          refine ow_dup X132.here hx hby at_61 rfl ?_
          refine ow_iconst X132.here hx hby at_62 (v := 0) rfl ?_
          refine ow_iload X132.here hx hby at_63 rfl ?_
          exact kt
        obtain ⟨cl142, Ar142, q142, S142, M142, H142, G142⟩ := (id V_b132)
        have hin142 := inb_of (j := (0 : Int32)) S142 ⟨by decide, by decide⟩
        obtain ⟨T142, h142, X142, e142, W142, st142⟩ := stC X132 hx hZ e132 Ar142 (j := (0 : Int32)) hin142 (g := (mkF m 65 #[.val (.long q1), .second, .val (.long q2), .second, .val (.long q3), .second, iv p4, iv b0, iv b1, iv bl, un, un, un, un, un, un, un, un, un, un, un, un] [(.int b0), (.int 0), (.ref b132), (.ref b132), (.ref b125), (.ref b125)])) rfl rfl (hb hby at_65)
        have V_b132_142 := Arv.set Ar142 q142 S142 M142 H142 G142 (fits_nar_char _) W142 0 rfl (Nat.le_of_ble_eq_true rfl)
        have N142 := Fr.snoc X142 N5 g_b132
        have K142 := K132.wr W142 (Or.inr sz_b132)
        have Z142 := Nat.le_trans Z132 (Keep.of_wr W142).1
        have mo142_0 := Nat.le_trans mo132_0 (Keep.of_wr W142).1
        have CR142 := CR132.trans (CHr.wr W142 (Safe.arv (hZ.alike) V_b132 (by decide)) CR132.1)
        have SCS_143 := SCS_133.wr W142
        have SFM_144 := SFM_134.wr W142
        have SAD_145 := SAD_135.wr W142
        have SHI_146 := SHI_136.wr W142
        have SLO_147 := SLO_137.wr W142
        have A125_148 := A125_138.wr W142
        have Fv_b125_149 := Fv_b125_139.other W142 (Or.inl ne_b125_b132)
        have Fc_b125_150 := Fc_b125_140.other W142 (Or.inl ne_b125_b132)
        have V_b132_142' : Arv Z h142 b132 k132 .char (2 : Int32) [(.int (nar .char b0)), (.int 0)] (.int 0) := V_b132_142
        have pre142 : PQ p e below m S0 T142 66 #[.val (.long q1), .second, .val (.long q2), .second, .val (.long q3), .second, iv p4, iv b0, iv b1, iv bl, un, un, un, un, un, un, un, un, un, un, un, un] [(.ref b132), (.ref b125), (.ref b125)] := fun t kt => pre141 t (st142 _ kt)
        have pre152 : PQ p e below m S0 T142 70 #[.val (.long q1), .second, .val (.long q2), .second, .val (.long q3), .second, iv p4, iv b0, iv b1, iv bl, un, un, un, un, un, un, un, un, un, un, un, un] [(.int b1), (.int 1), (.ref b132), (.ref b132), (.ref b125), (.ref b125)] := by
          intro t kt
          refine pre142 t ?_
          refine ow_dup X142.here hx hby at_66 rfl ?_
          refine ow_iconst X142.here hx hby at_67 (v := 1) rfl ?_
          refine ow_iload X142.here hx hby at_68 rfl ?_
          exact kt
        obtain ⟨cl153, Ar153, q153, S153, M153, H153, G153⟩ := (id V_b132_142')
        have hin153 := inb_of (j := (1 : Int32)) S153 ⟨by decide, by decide⟩
        obtain ⟨T153, h153, X153, e153, W153, st153⟩ := stC X142 hx hZ e142 Ar153 (j := (1 : Int32)) hin153 (g := (mkF m 70 #[.val (.long q1), .second, .val (.long q2), .second, .val (.long q3), .second, iv p4, iv b0, iv b1, iv bl, un, un, un, un, un, un, un, un, un, un, un, un] [(.int b1), (.int 1), (.ref b132), (.ref b132), (.ref b125), (.ref b125)])) rfl rfl (hb hby at_70)
        have V_b132_153 := Arv.set Ar153 q153 S153 M153 H153 G153 (fits_nar_char _) W153 1 rfl (Nat.le_of_ble_eq_true rfl)
        have N153 := Fr.snoc X153 N142 g_b132
        have K153 := K142.wr W153 (Or.inr sz_b132)
        have Z153 := Nat.le_trans Z142 (Keep.of_wr W153).1
        have mo153_0 := Nat.le_trans mo142_0 (Keep.of_wr W153).1
        have CR153 := CR142.trans (CHr.wr W153 (Safe.arv (hZ.alike) V_b132_142' (by decide)) CR142.1)
        have SCS_154 := SCS_143.wr W153
        have SFM_155 := SFM_144.wr W153
        have SAD_156 := SAD_145.wr W153
        have SHI_157 := SHI_146.wr W153
        have SLO_158 := SLO_147.wr W153
        have A125_159 := A125_148.wr W153
        have Fv_b125_160 := Fv_b125_149.other W153 (Or.inl ne_b125_b132)
        have Fc_b125_161 := Fc_b125_150.other W153 (Or.inl ne_b125_b132)
        have V_b132_153' : Arv Z h153 b132 k132 .char (2 : Int32) [(.int (nar .char b0)), (.int (nar .char b1))] (.int 0) := V_b132_153
        have pre153 : PQ p e below m S0 T153 71 #[.val (.long q1), .second, .val (.long q2), .second, .val (.long q3), .second, iv p4, iv b0, iv b1, iv bl, un, un, un, un, un, un, un, un, un, un, un, un] [(.ref b132), (.ref b125), (.ref b125)] := fun t kt => pre152 t (st153 _ kt)
        have VN163 : Arv Z h153 b132 k132 .char (2 : Int32) [.int b0, .int b1] (.int 0) := by
          have q := V_b132_153'
          simp only [own_nb hb0, own_nb hb1] at q
          exact q
        by_cases hU : (255 : Int32) < b0 ∨ (255 : Int32) < b1
        · skip
          obtain ⟨_, _, ⟨T164, L164, k164, n164⟩, -, X164, ⟨Lc164, hQ164, l164, y164, z164⟩, st164⟩ := X153.specialBack hx (y := mn37) rfl hown (mw hZ hw 106 rfl) (mw hZ hw 107 rfl) (mw hZ hw 108 rfl) (by decide) (backOf (W := 1) (rm21_U l Z a0 hw [] b125 b132 k132 b0 b1 cz h153 n0 Z153 A125_159 Fv_b125_160 Fc_b125_161 VN163 SCS_154 SAD_156 SHI_157 SLO_158 g_b125 ne_b125_b132 (hCS) (hU) (hb0) (hb1)) hZ (wi hw 108 rfl) (wi hw 5 rfl) (by decide) (by decide)) (g := (mkF m 71 #[.val (.long q1), .second, .val (.long q2), .second, .val (.long q3), .second, iv p4, iv b0, iv b1, iv bl, un, un, un, un, un, un, un, un, un, un, un, un] [(.ref b132), (.ref b125), (.ref b125)])) rfl (by rw [hml]; rfl) (Steps.refl _) (a := b125) (argsL := [(.ref b132)]) (rest := [(.ref b125)]) (lenOf pd_28 rfl) rfl (by show 2 * 0 + _ ≤ _; exact Nat.le_of_eq rfl) (hb hby at_71) (fun _ _ => ⟨rfl, e153, (by decide : 2 + 2 ≤ _), (by decide : 6 + 6 ≤ _)⟩)
          dsimp only [Pt.U, Pt.locs, Pt.cells, Pt.slots] at X164 l164 y164 z164 st164 hQ164
          subst l164 y164 z164
          obtain ⟨tz_164, kz_164, rfl, N164q, KC164, P164_0, P164_1, P164_2, P164_3⟩ := hQ164
          have N164 := Fr.app N153 N164q
          have Z164 : n0 ≤ T164.heap.size := Nat.le_trans Z153 KC164.1
          have mo164_0 := Nat.le_trans mo153_0 KC164.1
          have CR164 := CR153.trans (CHr.keep KC164 (sfS (own_safeNull (hZ.alike) A125_159 Fv_b125_160) sf0) CR153.1)
          have K164 := K153.trans KC164 (allS (Or.inr sz_b125) all0)
          have SCS_165 := own_stak SCS_154 KC164 (nsS A125_159.nostat ns0)
          have SFM_166 := own_stak SFM_155 KC164 (nsS A125_159.nostat ns0)
          have SAD_167 := own_stak SAD_156 KC164 (nsS A125_159.nostat ns0)
          have SHI_168 := own_stak SHI_157 KC164 (nsS A125_159.nostat ns0)
          have SLO_169 := own_stak SLO_158 KC164 (nsS A125_159.nostat ns0)
          have A125_170 := A125_159.keep KC164
          have V_b132_173 := VN163.keep KC164 (ninS (Ne.symm ne_b125_b132) nin0)
          have E_b125_164 : exa0 Z T164.heap b125 := P164_0
          have Fv_b125_164 : fld1 Z T164.heap b125 (.ref tz_164) := P164_1
          have Fc_b125_164 : fld0 Z T164.heap b125 (.int 1) := P164_2
          have V_tz_164_164 : Arv Z T164.heap tz_164 kz_164 .byte (4 : Int32) [(.int (own_lo b0)), (.int (own_hi b0)), (.int (own_lo b1)), (.int (own_hi b1))] (.int 0) := P164_3
          have pre164 : PQ p e below m S0 T164 74 #[.val (.long q1), .second, .val (.long q2), .second, .val (.long q3), .second, iv p4, iv b0, iv b1, iv bl, un, un, un, un, un, un, un, un, un, un, un, un] [(.ref b125)] := fun t kt => pre153 t (st164.trans kt)
          have pre174 : PQ p e below m S0 T164 76 #[.val (.long q1), .second, .val (.long q2), .second, .val (.long q3), .second, iv p4, iv b0, iv b1, iv bl, rv b125, un, un, un, un, un, un, un, un, un, un, un] [] := by
            intro t kt
            refine pre164 t ?_
            refine ow_astore X164.here hx hby at_74 rfl (l' := #[.val (.long q1), .second, .val (.long q2), .second, .val (.long q3), .second, iv p4, iv b0, iv b1, iv bl, rv b125, un, un, un, un, un, un, un, un, un, un, un]) rfl ?_
            exact kt
          have hbs : ∀ c ∈ [b0, b1], ¬ c < 0 ∧ ¬ (65535 : Int32) < c := fun c hc => by
            simp only [List.mem_cons, List.not_mem_nil, or_false] at hc
            rcases hc with rfl | rfl
            · exact hb0
            · exact hb1
          have SS : own_S Z T164.heap b125 [b0, b1] := ⟨_, _, E_b125_164, Fv_b125_164, Or.inr ⟨by simp, Fc_b125_164, V_tz_164_164, hbs⟩⟩
          exact ⟨_, _, _, s.vm, _, b125, [b0, b1], own_up X164 (by decide) (by decide), rfl, N164, K164, Z164, hS0, mo164_0, hZ, hown, CR164, SCS_165, SFM_166, SAD_167, SHI_168, SLO_169, E_b125_164, SS, (by simp), (fun c _ => own_hB2 (own_bl ebl hc28 hc41) hb0 hb1 c), pre174⟩
        · have h0_ := fun q => hU (Or.inl q)
          have h1_ := fun q => hU (Or.inr q)
          obtain ⟨_, _, ⟨T175, L175, k175, n175⟩, -, X175, ⟨Lc175, hQ175, l175, y175, z175⟩, st175⟩ := X153.specialBack hx (y := mn37) rfl hown (mw hZ hw 106 rfl) (mw hZ hw 107 rfl) (mw hZ hw 108 rfl) (by decide) (backOf (W := 1) (rm21_L l Z a0 hw [] b125 b132 k132 b0 b1 cz h153 n0 Z153 A125_159 Fv_b125_160 Fc_b125_161 VN163 SCS_154 SAD_156 SHI_157 SLO_158 g_b125 ne_b125_b132 (hCS) (h0_) (h1_) (hb0) (hb1)) hZ (wi hw 108 rfl) (wi hw 5 rfl) (by decide) (by decide)) (g := (mkF m 71 #[.val (.long q1), .second, .val (.long q2), .second, .val (.long q3), .second, iv p4, iv b0, iv b1, iv bl, un, un, un, un, un, un, un, un, un, un, un, un] [(.ref b132), (.ref b125), (.ref b125)])) rfl (by rw [hml]; rfl) (Steps.refl _) (a := b125) (argsL := [(.ref b132)]) (rest := [(.ref b125)]) (lenOf pd_28 rfl) rfl (by show 2 * 0 + _ ≤ _; exact Nat.le_of_eq rfl) (hb hby at_71) (fun _ _ => ⟨rfl, e153, (by decide : 2 + 1 ≤ _), (by decide : 6 + 2 ≤ _)⟩)
          dsimp only [Pt.U, Pt.locs, Pt.cells, Pt.slots] at X175 l175 y175 z175 st175 hQ175
          subst l175 y175 z175
          obtain ⟨tz_175, kz_175, rfl, N175q, KC175, P175_0, P175_1, P175_2, P175_3⟩ := hQ175
          have N175 := Fr.app N153 N175q
          have Z175 : n0 ≤ T175.heap.size := Nat.le_trans Z153 KC175.1
          have mo175_0 := Nat.le_trans mo153_0 KC175.1
          have CR175 := CR153.trans (CHr.keep KC175 (sfS (own_safeNull (hZ.alike) A125_159 Fv_b125_160) sf0) CR153.1)
          have K175 := K153.trans KC175 (allS (Or.inr sz_b125) all0)
          have SCS_176 := own_stak SCS_154 KC175 (nsS A125_159.nostat ns0)
          have SFM_177 := own_stak SFM_155 KC175 (nsS A125_159.nostat ns0)
          have SAD_178 := own_stak SAD_156 KC175 (nsS A125_159.nostat ns0)
          have SHI_179 := own_stak SHI_157 KC175 (nsS A125_159.nostat ns0)
          have SLO_180 := own_stak SLO_158 KC175 (nsS A125_159.nostat ns0)
          have A125_181 := A125_159.keep KC175
          have V_b132_184 := VN163.keep KC175 (ninS (Ne.symm ne_b125_b132) nin0)
          have E_b125_175 : exa0 Z T175.heap b125 := P175_0
          have Fv_b125_175 : fld1 Z T175.heap b125 (.ref tz_175) := P175_1
          have Fc_b125_175 : fld0 Z T175.heap b125 (.int 0) := P175_2
          have V_tz_175_175 : Arv Z T175.heap tz_175 kz_175 .byte (2 : Int32) [(.int (own_b b0)), (.int (own_b b1))] (.int 0) := P175_3
          have pre175 : PQ p e below m S0 T175 74 #[.val (.long q1), .second, .val (.long q2), .second, .val (.long q3), .second, iv p4, iv b0, iv b1, iv bl, un, un, un, un, un, un, un, un, un, un, un, un] [(.ref b125)] := fun t kt => pre153 t (st175.trans kt)
          have pre185 : PQ p e below m S0 T175 76 #[.val (.long q1), .second, .val (.long q2), .second, .val (.long q3), .second, iv p4, iv b0, iv b1, iv bl, rv b125, un, un, un, un, un, un, un, un, un, un, un] [] := by
            intro t kt
            refine pre175 t ?_
            refine ow_astore X175.here hx hby at_74 rfl (l' := #[.val (.long q1), .second, .val (.long q2), .second, .val (.long q3), .second, iv p4, iv b0, iv b1, iv bl, rv b125, un, un, un, un, un, un, un, un, un, un, un]) rfl ?_
            exact kt
          have hbs : ∀ c ∈ [b0, b1], ¬ c < 0 ∧ ¬ (255 : Int32) < c := fun c hc => by
            simp only [List.mem_cons, List.not_mem_nil, or_false] at hc
            rcases hc with rfl | rfl
            · exact ⟨hb0.1, h0_⟩
            · exact ⟨hb1.1, h1_⟩
          have SS : own_S Z T175.heap b125 [b0, b1] := ⟨_, _, E_b125_175, Fv_b125_175, Or.inl ⟨Fc_b125_175, V_tz_175_175, hbs⟩⟩
          exact ⟨_, _, _, s.vm, _, b125, [b0, b1], own_up X175 (by decide) (by decide), rfl, N175, K175, Z175, hS0, mo175_0, hZ, hown, CR175, SCS_176, SFM_177, SAD_178, SHI_179, SLO_180, E_b125_175, SS, (by simp), (fun c _ => own_hB2 (own_bl ebl hc28 hc41) hb0 hb1 c), pre185⟩
  have pre187 : PQ p e below m S0 T76 77 #[.val (.long q1), .second, .val (.long q2), .second, .val (.long q3), .second, iv p4, iv b0, iv b1, iv bl, rv a76, un, un, un, un, un, un, un, un, un, un, un] [(.int 4)] := by
    intro t kt
    refine pre76 t ?_
    refine ow_iconst X76.here hx hby at_76 (v := 4) rfl ?_
    exact kt
  obtain ⟨T188, h188, k188, X188, e188, E188, A188, st188⟩ := newP X76 hx hZ (wi hw 12 rfl) e76 (g := (mkF m 77 #[.val (.long q1), .second, .val (.long q2), .second, .val (.long q3), .second, iv p4, iv b0, iv b1, iv bl, rv a76, un, un, un, un, un, un, un, un, un, un, un] [(.int 4)])) rfl (hb hby at_77) rfl (by decide) (cap := 4) (by decide) (by decide) (by decide) (by decide)
  obtain ⟨b188, g188⟩ : ∃ z, z = h76.size := ⟨_, rfl⟩
  have ne_a76_b188 : a76 ≠ b188 := Nat.ne_of_lt (Nat.lt_of_lt_of_le E76.lt (Nat.le_of_eq g188.symm))
  have g_b188 : n0 ≤ b188 := Nat.le_trans Z76 (Nat.le_of_eq g188.symm)
  have sz_b188 : h0.size ≤ b188 := Nat.le_trans K76.1 (Nat.le_of_eq g188.symm)
  rw [← g188] at A188 st188
  have K188 := K76.ext E188
  have Z188 := Nat.le_trans Z76 E188.1
  have mo188_0 := Nat.le_trans mo76 E188.1
  have CR188 := CR76.trans (CHr.ext E188 CR76.1)
  have SCS_189 := SCS_76.ext E188
  have SFM_190 := SFM_76.ext E188
  have SAD_191 := SAD_76.ext E188
  have SHI_192 := SHI_76.ext E188
  have SLO_193 := SLO_76.ext E188
  have E76_194 := E76.ext E188
  have SS76_195 := own_Sext SS76 E188
  have V_b188 : Arv Z h188 b188 k188 .char (4 : Int32) [(.int 0), (.int 0), (.int 0), (.int 0)] (.int 0) := (Arv.new A188 (by decide)).pad (pad_rep [] (.int 0) 4)
  have pre188 : PQ p e below m S0 T188 79 #[.val (.long q1), .second, .val (.long q2), .second, .val (.long q3), .second, iv p4, iv b0, iv b1, iv bl, rv a76, un, un, un, un, un, un, un, un, un, un, un] [(.ref b188)] := fun t kt => pre187 t (st188 _ kt)
  have pre196 : PQ p e below m S0 T188 83 #[.val (.long q1), .second, .val (.long q2), .second, .val (.long q3), .second, iv p4, iv b0, iv b1, iv bl, rv a76, un, un, un, un, un, un, un, un, un, un, un] [(.int (q2.toInt32)), (.int 0), (.ref b188), (.ref b188)] := by
    intro t kt
    refine pre188 t ?_
    refine ow_dup X188.here hx hby at_79 rfl ?_
    refine ow_iconst X188.here hx hby at_80 (v := 0) rfl ?_
    refine XS.lloadN X188.here hx rfl (hb hby at_81) rfl ?_
    show SQ p e below m T188 82 #[.val (.long q1), .second, .val (.long q2), .second, .val (.long q3), .second, iv p4, iv b0, iv b1, iv bl, rv a76, un, un, un, un, un, un, un, un, un, un, un] [(.long q2), (.int 0), (.ref b188), (.ref b188)] _
    refine XS.l2i X188.here hx rfl (hb hby at_82) rfl ?_
    exact kt
  obtain ⟨_, _, ⟨T197, L197, k197, n197⟩, -, X197, ⟨Lc197, hQ197, l197, y197, z197⟩, st197⟩ := Jvm.LawKit.callS X188 hx (y := mn9) hown (mw hZ hw 0 rfl) (mw hZ hw 1 rfl) (mw hZ hw 2 rfl) (mw hZ hw 3 rfl) (by decide) (backOf (W := 3) (rm1 l Z a0 hw [] (q2.toInt32) h188 n0) hZ (wi hw 3 rfl) (wi hw 2 rfl) (by decide) (by decide)) (g := (mkF m 83 #[.val (.long q1), .second, .val (.long q2), .second, .val (.long q3), .second, iv p4, iv b0, iv b1, iv bl, rv a76, un, un, un, un, un, un, un, un, un, un, un] [(.int (q2.toInt32)), (.int 0), (.ref b188), (.ref b188)])) rfl (by rw [hml]; rfl) (argsL := [(.int (q2.toInt32))]) (rest := [(.int 0), (.ref b188), (.ref b188)]) (lenOf pd_24 rfl) rfl (by show 2 * 0 + _ ≤ _; exact Nat.le_of_eq rfl) (hb hby at_83) (fun _ _ => ⟨rfl, e188, (by decide : 5 + 0 ≤ _), (by decide : 16 + 0 ≤ _)⟩)
  dsimp only [Pt.U, Pt.locs, Pt.cells, Pt.slots] at X197 l197 y197 z197 st197 hQ197
  subst l197 y197 z197
  obtain ⟨rfl, N197q, e197⟩ := hQ197
  have N197 := Fr.app N76 N197q
  have pre197 : PQ p e below m S0 T197 86 #[.val (.long q1), .second, .val (.long q2), .second, .val (.long q3), .second, iv p4, iv b0, iv b1, iv bl, rv a76, un, un, un, un, un, un, un, un, un, un, un] [(.int (own_f1 (q2.toInt32))), (.int 0), (.ref b188), (.ref b188)] := fun t kt => pre196 t (st197 _ kt)
  obtain ⟨cl198, Ar198, q198, S198, M198, H198, G198⟩ := (id V_b188)
  have hin198 := inb_of (j := (0 : Int32)) S198 ⟨by decide, by decide⟩
  obtain ⟨T198, h198, X198, e198, W198, st198⟩ := stC X197 hx hZ e197 Ar198 (j := (0 : Int32)) hin198 (g := (mkF m 86 #[.val (.long q1), .second, .val (.long q2), .second, .val (.long q3), .second, iv p4, iv b0, iv b1, iv bl, rv a76, un, un, un, un, un, un, un, un, un, un, un] [(.int (own_f1 (q2.toInt32))), (.int 0), (.ref b188), (.ref b188)])) rfl rfl (hb hby at_86)
  have V_b188_198 := Arv.set Ar198 q198 S198 M198 H198 G198 (fits_nar_char _) W198 0 rfl (Nat.le_of_ble_eq_true rfl)
  have N198 := Fr.snoc X198 N197 g_b188
  have K198 := K188.wr W198 (Or.inr sz_b188)
  have Z198 := Nat.le_trans Z188 (Keep.of_wr W198).1
  have mo198_0 := Nat.le_trans mo188_0 (Keep.of_wr W198).1
  have CR198 := CR188.trans (CHr.wr W198 (Safe.arv (hZ.alike) V_b188 (by decide)) CR188.1)
  have SCS_199 := SCS_189.wr W198
  have SFM_200 := SFM_190.wr W198
  have SAD_201 := SAD_191.wr W198
  have SHI_202 := SHI_192.wr W198
  have SLO_203 := SLO_193.wr W198
  have E76_204 := E76_194.wr W198
  have SS76_205 := own_Swc SS76_195 W198 V_b188 (wi hw 6 rfl) (by decide)
  have V_b188_198' : Arv Z h198 b188 k188 .char (4 : Int32) [(.int (nar .char (own_f1 (q2.toInt32)))), (.int 0), (.int 0), (.int 0)] (.int 0) := V_b188_198
  have pre198 : PQ p e below m S0 T198 87 #[.val (.long q1), .second, .val (.long q2), .second, .val (.long q3), .second, iv p4, iv b0, iv b1, iv bl, rv a76, un, un, un, un, un, un, un, un, un, un, un] [(.ref b188)] := fun t kt => pre197 t (st198 _ kt)
  have pre207 : PQ p e below m S0 T198 94 #[.val (.long q1), .second, .val (.long q2), .second, .val (.long q3), .second, iv p4, iv b0, iv b1, iv bl, rv a76, un, un, un, un, un, un, un, un, un, un, un] [(.int (((q2.toUInt64 >>> ((32 : Int32) &&& 0x3f).toInt64.toUInt64).toInt64).toInt32)), (.int 1), (.ref b188), (.ref b188)] := by
    intro t kt
    refine pre198 t ?_
    refine ow_dup X198.here hx hby at_87 rfl ?_
    refine ow_iconst X198.here hx hby at_88 (v := 1) rfl ?_
    refine XS.lloadN X198.here hx rfl (hb hby at_89) rfl ?_
    show SQ p e below m T198 90 #[.val (.long q1), .second, .val (.long q2), .second, .val (.long q3), .second, iv p4, iv b0, iv b1, iv bl, rv a76, un, un, un, un, un, un, un, un, un, un, un] [(.long q2), (.int 1), (.ref b188), (.ref b188)] _
    refine ow_bipush X198.here hx hby at_90 (v := 32) rfl ?_
    refine XS.lushr X198.here hx rfl (hb hby at_92) rfl ?_
    show SQ p e below m T198 93 #[.val (.long q1), .second, .val (.long q2), .second, .val (.long q3), .second, iv p4, iv b0, iv b1, iv bl, rv a76, un, un, un, un, un, un, un, un, un, un, un] [(.long ((q2.toUInt64 >>> ((32 : Int32) &&& 0x3f).toInt64.toUInt64).toInt64)), (.int 1), (.ref b188), (.ref b188)] _
    refine XS.l2i X198.here hx rfl (hb hby at_93) rfl ?_
    exact kt
  obtain ⟨_, _, ⟨T208, L208, k208, n208⟩, -, X208, ⟨Lc208, hQ208, l208, y208, z208⟩, st208⟩ := Jvm.LawKit.callS X198 hx (y := mn9) hown (mw hZ hw 0 rfl) (mw hZ hw 1 rfl) (mw hZ hw 2 rfl) (mw hZ hw 3 rfl) (by decide) (backOf (W := 3) (rm1 l Z a0 hw [] (((q2.toUInt64 >>> ((32 : Int32) &&& 0x3f).toInt64.toUInt64).toInt64).toInt32) h198 n0) hZ (wi hw 3 rfl) (wi hw 2 rfl) (by decide) (by decide)) (g := (mkF m 94 #[.val (.long q1), .second, .val (.long q2), .second, .val (.long q3), .second, iv p4, iv b0, iv b1, iv bl, rv a76, un, un, un, un, un, un, un, un, un, un, un] [(.int (((q2.toUInt64 >>> ((32 : Int32) &&& 0x3f).toInt64.toUInt64).toInt64).toInt32)), (.int 1), (.ref b188), (.ref b188)])) rfl (by rw [hml]; rfl) (argsL := [(.int (((q2.toUInt64 >>> ((32 : Int32) &&& 0x3f).toInt64.toUInt64).toInt64).toInt32))]) (rest := [(.int 1), (.ref b188), (.ref b188)]) (lenOf pd_24 rfl) rfl (by show 2 * 0 + _ ≤ _; exact Nat.le_of_eq rfl) (hb hby at_94) (fun _ _ => ⟨rfl, e198, (by decide : 5 + 0 ≤ _), (by decide : 16 + 0 ≤ _)⟩)
  dsimp only [Pt.U, Pt.locs, Pt.cells, Pt.slots] at X208 l208 y208 z208 st208 hQ208
  subst l208 y208 z208
  obtain ⟨rfl, N208q, e208⟩ := hQ208
  have N208 := Fr.app N198 N208q
  have pre208 : PQ p e below m S0 T208 97 #[.val (.long q1), .second, .val (.long q2), .second, .val (.long q3), .second, iv p4, iv b0, iv b1, iv bl, rv a76, un, un, un, un, un, un, un, un, un, un, un] [(.int (own_f1 (((q2.toUInt64 >>> ((32 : Int32) &&& 0x3f).toInt64.toUInt64).toInt64).toInt32))), (.int 1), (.ref b188), (.ref b188)] := fun t kt => pre207 t (st208 _ kt)
  obtain ⟨cl209, Ar209, q209, S209, M209, H209, G209⟩ := (id V_b188_198')
  have hin209 := inb_of (j := (1 : Int32)) S209 ⟨by decide, by decide⟩
  obtain ⟨T209, h209, X209, e209, W209, st209⟩ := stC X208 hx hZ e208 Ar209 (j := (1 : Int32)) hin209 (g := (mkF m 97 #[.val (.long q1), .second, .val (.long q2), .second, .val (.long q3), .second, iv p4, iv b0, iv b1, iv bl, rv a76, un, un, un, un, un, un, un, un, un, un, un] [(.int (own_f1 (((q2.toUInt64 >>> ((32 : Int32) &&& 0x3f).toInt64.toUInt64).toInt64).toInt32))), (.int 1), (.ref b188), (.ref b188)])) rfl rfl (hb hby at_97)
  have V_b188_209 := Arv.set Ar209 q209 S209 M209 H209 G209 (fits_nar_char _) W209 1 rfl (Nat.le_of_ble_eq_true rfl)
  have N209 := Fr.snoc X209 N208 g_b188
  have K209 := K198.wr W209 (Or.inr sz_b188)
  have Z209 := Nat.le_trans Z198 (Keep.of_wr W209).1
  have mo209_0 := Nat.le_trans mo198_0 (Keep.of_wr W209).1
  have CR209 := CR198.trans (CHr.wr W209 (Safe.arv (hZ.alike) V_b188_198' (by decide)) CR198.1)
  have SCS_210 := SCS_199.wr W209
  have SFM_211 := SFM_200.wr W209
  have SAD_212 := SAD_201.wr W209
  have SHI_213 := SHI_202.wr W209
  have SLO_214 := SLO_203.wr W209
  have E76_215 := E76_204.wr W209
  have SS76_216 := own_Swc SS76_205 W209 V_b188_198' (wi hw 6 rfl) (by decide)
  have V_b188_209' : Arv Z h209 b188 k188 .char (4 : Int32) [(.int (nar .char (own_f1 (q2.toInt32)))), (.int (nar .char (own_f1 (((q2.toUInt64 >>> ((32 : Int32) &&& 0x3f).toInt64.toUInt64).toInt64).toInt32)))), (.int 0), (.int 0)] (.int 0) := V_b188_209
  have pre209 : PQ p e below m S0 T209 98 #[.val (.long q1), .second, .val (.long q2), .second, .val (.long q3), .second, iv p4, iv b0, iv b1, iv bl, rv a76, un, un, un, un, un, un, un, un, un, un, un] [(.ref b188)] := fun t kt => pre208 t (st209 _ kt)
  have pre218 : PQ p e below m S0 T209 103 #[.val (.long q1), .second, .val (.long q2), .second, .val (.long q3), .second, iv p4, iv b0, iv b1, iv bl, rv a76, un, un, un, un, un, un, un, un, un, un, un] [(.int (q3.toInt32)), (.int 2), (.ref b188), (.ref b188)] := by
    intro t kt
    refine pre209 t ?_
    refine ow_dup X209.here hx hby at_98 rfl ?_
    refine ow_iconst X209.here hx hby at_99 (v := 2) rfl ?_
    refine XS.lload X209.here hx rfl (hb hby at_100) rfl ?_
    show SQ p e below m T209 102 #[.val (.long q1), .second, .val (.long q2), .second, .val (.long q3), .second, iv p4, iv b0, iv b1, iv bl, rv a76, un, un, un, un, un, un, un, un, un, un, un] [(.long q3), (.int 2), (.ref b188), (.ref b188)] _
    refine XS.l2i X209.here hx rfl (hb hby at_102) rfl ?_
    exact kt
  obtain ⟨_, _, ⟨T219, L219, k219, n219⟩, -, X219, ⟨Lc219, hQ219, l219, y219, z219⟩, st219⟩ := Jvm.LawKit.callS X209 hx (y := mn9) hown (mw hZ hw 0 rfl) (mw hZ hw 1 rfl) (mw hZ hw 2 rfl) (mw hZ hw 3 rfl) (by decide) (backOf (W := 3) (rm1 l Z a0 hw [] (q3.toInt32) h209 n0) hZ (wi hw 3 rfl) (wi hw 2 rfl) (by decide) (by decide)) (g := (mkF m 103 #[.val (.long q1), .second, .val (.long q2), .second, .val (.long q3), .second, iv p4, iv b0, iv b1, iv bl, rv a76, un, un, un, un, un, un, un, un, un, un, un] [(.int (q3.toInt32)), (.int 2), (.ref b188), (.ref b188)])) rfl (by rw [hml]; rfl) (argsL := [(.int (q3.toInt32))]) (rest := [(.int 2), (.ref b188), (.ref b188)]) (lenOf pd_24 rfl) rfl (by show 2 * 0 + _ ≤ _; exact Nat.le_of_eq rfl) (hb hby at_103) (fun _ _ => ⟨rfl, e209, (by decide : 5 + 0 ≤ _), (by decide : 16 + 0 ≤ _)⟩)
  dsimp only [Pt.U, Pt.locs, Pt.cells, Pt.slots] at X219 l219 y219 z219 st219 hQ219
  subst l219 y219 z219
  obtain ⟨rfl, N219q, e219⟩ := hQ219
  have N219 := Fr.app N209 N219q
  have pre219 : PQ p e below m S0 T219 106 #[.val (.long q1), .second, .val (.long q2), .second, .val (.long q3), .second, iv p4, iv b0, iv b1, iv bl, rv a76, un, un, un, un, un, un, un, un, un, un, un] [(.int (own_f1 (q3.toInt32))), (.int 2), (.ref b188), (.ref b188)] := fun t kt => pre218 t (st219 _ kt)
  obtain ⟨cl220, Ar220, q220, S220, M220, H220, G220⟩ := (id V_b188_209')
  have hin220 := inb_of (j := (2 : Int32)) S220 ⟨by decide, by decide⟩
  obtain ⟨T220, h220, X220, e220, W220, st220⟩ := stC X219 hx hZ e219 Ar220 (j := (2 : Int32)) hin220 (g := (mkF m 106 #[.val (.long q1), .second, .val (.long q2), .second, .val (.long q3), .second, iv p4, iv b0, iv b1, iv bl, rv a76, un, un, un, un, un, un, un, un, un, un, un] [(.int (own_f1 (q3.toInt32))), (.int 2), (.ref b188), (.ref b188)])) rfl rfl (hb hby at_106)
  have V_b188_220 := Arv.set Ar220 q220 S220 M220 H220 G220 (fits_nar_char _) W220 2 rfl (Nat.le_of_ble_eq_true rfl)
  have N220 := Fr.snoc X220 N219 g_b188
  have K220 := K209.wr W220 (Or.inr sz_b188)
  have Z220 := Nat.le_trans Z209 (Keep.of_wr W220).1
  have mo220_0 := Nat.le_trans mo209_0 (Keep.of_wr W220).1
  have CR220 := CR209.trans (CHr.wr W220 (Safe.arv (hZ.alike) V_b188_209' (by decide)) CR209.1)
  have SCS_221 := SCS_210.wr W220
  have SFM_222 := SFM_211.wr W220
  have SAD_223 := SAD_212.wr W220
  have SHI_224 := SHI_213.wr W220
  have SLO_225 := SLO_214.wr W220
  have E76_226 := E76_215.wr W220
  have SS76_227 := own_Swc SS76_216 W220 V_b188_209' (wi hw 6 rfl) (by decide)
  have V_b188_220' : Arv Z h220 b188 k188 .char (4 : Int32) [(.int (nar .char (own_f1 (q2.toInt32)))), (.int (nar .char (own_f1 (((q2.toUInt64 >>> ((32 : Int32) &&& 0x3f).toInt64.toUInt64).toInt64).toInt32)))), (.int (nar .char (own_f1 (q3.toInt32)))), (.int 0)] (.int 0) := V_b188_220
  have pre220 : PQ p e below m S0 T220 107 #[.val (.long q1), .second, .val (.long q2), .second, .val (.long q3), .second, iv p4, iv b0, iv b1, iv bl, rv a76, un, un, un, un, un, un, un, un, un, un, un] [(.ref b188)] := fun t kt => pre219 t (st220 _ kt)
  have pre229 : PQ p e below m S0 T220 115 #[.val (.long q1), .second, .val (.long q2), .second, .val (.long q3), .second, iv p4, iv b0, iv b1, iv bl, rv a76, un, un, un, un, un, un, un, un, un, un, un] [(.int (((q3.toUInt64 >>> ((32 : Int32) &&& 0x3f).toInt64.toUInt64).toInt64).toInt32)), (.int 3), (.ref b188), (.ref b188)] := by
    intro t kt
    refine pre220 t ?_
    refine ow_dup X220.here hx hby at_107 rfl ?_
    refine ow_iconst X220.here hx hby at_108 (v := 3) rfl ?_
    refine XS.lload X220.here hx rfl (hb hby at_109) rfl ?_
    show SQ p e below m T220 111 #[.val (.long q1), .second, .val (.long q2), .second, .val (.long q3), .second, iv p4, iv b0, iv b1, iv bl, rv a76, un, un, un, un, un, un, un, un, un, un, un] [(.long q3), (.int 3), (.ref b188), (.ref b188)] _
    refine ow_bipush X220.here hx hby at_111 (v := 32) rfl ?_
    refine XS.lushr X220.here hx rfl (hb hby at_113) rfl ?_
    show SQ p e below m T220 114 #[.val (.long q1), .second, .val (.long q2), .second, .val (.long q3), .second, iv p4, iv b0, iv b1, iv bl, rv a76, un, un, un, un, un, un, un, un, un, un, un] [(.long ((q3.toUInt64 >>> ((32 : Int32) &&& 0x3f).toInt64.toUInt64).toInt64)), (.int 3), (.ref b188), (.ref b188)] _
    refine XS.l2i X220.here hx rfl (hb hby at_114) rfl ?_
    exact kt
  obtain ⟨_, _, ⟨T230, L230, k230, n230⟩, -, X230, ⟨Lc230, hQ230, l230, y230, z230⟩, st230⟩ := Jvm.LawKit.callS X220 hx (y := mn9) hown (mw hZ hw 0 rfl) (mw hZ hw 1 rfl) (mw hZ hw 2 rfl) (mw hZ hw 3 rfl) (by decide) (backOf (W := 3) (rm1 l Z a0 hw [] (((q3.toUInt64 >>> ((32 : Int32) &&& 0x3f).toInt64.toUInt64).toInt64).toInt32) h220 n0) hZ (wi hw 3 rfl) (wi hw 2 rfl) (by decide) (by decide)) (g := (mkF m 115 #[.val (.long q1), .second, .val (.long q2), .second, .val (.long q3), .second, iv p4, iv b0, iv b1, iv bl, rv a76, un, un, un, un, un, un, un, un, un, un, un] [(.int (((q3.toUInt64 >>> ((32 : Int32) &&& 0x3f).toInt64.toUInt64).toInt64).toInt32)), (.int 3), (.ref b188), (.ref b188)])) rfl (by rw [hml]; rfl) (argsL := [(.int (((q3.toUInt64 >>> ((32 : Int32) &&& 0x3f).toInt64.toUInt64).toInt64).toInt32))]) (rest := [(.int 3), (.ref b188), (.ref b188)]) (lenOf pd_24 rfl) rfl (by show 2 * 0 + _ ≤ _; exact Nat.le_of_eq rfl) (hb hby at_115) (fun _ _ => ⟨rfl, e220, (by decide : 5 + 0 ≤ _), (by decide : 16 + 0 ≤ _)⟩)
  dsimp only [Pt.U, Pt.locs, Pt.cells, Pt.slots] at X230 l230 y230 z230 st230 hQ230
  subst l230 y230 z230
  obtain ⟨rfl, N230q, e230⟩ := hQ230
  have N230 := Fr.app N220 N230q
  have pre230 : PQ p e below m S0 T230 118 #[.val (.long q1), .second, .val (.long q2), .second, .val (.long q3), .second, iv p4, iv b0, iv b1, iv bl, rv a76, un, un, un, un, un, un, un, un, un, un, un] [(.int (own_f1 (((q3.toUInt64 >>> ((32 : Int32) &&& 0x3f).toInt64.toUInt64).toInt64).toInt32))), (.int 3), (.ref b188), (.ref b188)] := fun t kt => pre229 t (st230 _ kt)
  obtain ⟨cl231, Ar231, q231, S231, M231, H231, G231⟩ := (id V_b188_220')
  have hin231 := inb_of (j := (3 : Int32)) S231 ⟨by decide, by decide⟩
  obtain ⟨T231, h231, X231, e231, W231, st231⟩ := stC X230 hx hZ e230 Ar231 (j := (3 : Int32)) hin231 (g := (mkF m 118 #[.val (.long q1), .second, .val (.long q2), .second, .val (.long q3), .second, iv p4, iv b0, iv b1, iv bl, rv a76, un, un, un, un, un, un, un, un, un, un, un] [(.int (own_f1 (((q3.toUInt64 >>> ((32 : Int32) &&& 0x3f).toInt64.toUInt64).toInt64).toInt32))), (.int 3), (.ref b188), (.ref b188)])) rfl rfl (hb hby at_118)
  have V_b188_231 := Arv.set Ar231 q231 S231 M231 H231 G231 (fits_nar_char _) W231 3 rfl (Nat.le_of_ble_eq_true rfl)
  have N231 := Fr.snoc X231 N230 g_b188
  have K231 := K220.wr W231 (Or.inr sz_b188)
  have Z231 := Nat.le_trans Z220 (Keep.of_wr W231).1
  have mo231_0 := Nat.le_trans mo220_0 (Keep.of_wr W231).1
  have CR231 := CR220.trans (CHr.wr W231 (Safe.arv (hZ.alike) V_b188_220' (by decide)) CR220.1)
  have SCS_232 := SCS_221.wr W231
  have SFM_233 := SFM_222.wr W231
  have SAD_234 := SAD_223.wr W231
  have SHI_235 := SHI_224.wr W231
  have SLO_236 := SLO_225.wr W231
  have E76_237 := E76_226.wr W231
  have SS76_238 := own_Swc SS76_227 W231 V_b188_220' (wi hw 6 rfl) (by decide)
  have V_b188_231' : Arv Z h231 b188 k188 .char (4 : Int32) [(.int (nar .char (own_f1 (q2.toInt32)))), (.int (nar .char (own_f1 (((q2.toUInt64 >>> ((32 : Int32) &&& 0x3f).toInt64.toUInt64).toInt64).toInt32)))), (.int (nar .char (own_f1 (q3.toInt32)))), (.int (nar .char (own_f1 (((q3.toUInt64 >>> ((32 : Int32) &&& 0x3f).toInt64.toUInt64).toInt64).toInt32))))] (.int 0) := V_b188_231
  have pre231 : PQ p e below m S0 T231 119 #[.val (.long q1), .second, .val (.long q2), .second, .val (.long q3), .second, iv p4, iv b0, iv b1, iv bl, rv a76, un, un, un, un, un, un, un, un, un, un, un] [(.ref b188)] := fun t kt => pre230 t (st231 _ kt)
  have pre240 : PQ p e below m S0 T231 121 #[.val (.long q1), .second, .val (.long q2), .second, .val (.long q3), .second, iv p4, iv b0, iv b1, iv bl, rv a76, rv b188, un, un, un, un, un, un, un, un, un, un] [] := by
    intro t kt
    refine pre231 t ?_
    refine ow_astore X231.here hx hby at_119 rfl (l' := #[.val (.long q1), .second, .val (.long q2), .second, .val (.long q3), .second, iv p4, iv b0, iv b1, iv bl, rv a76, rv b188, un, un, un, un, un, un, un, un, un, un]) rfl ?_
    exact kt
  obtain ⟨ts, ets⟩ : ∃ z, z = ([(own_f1 (q2.toInt32)), (own_f1 (((q2.toUInt64 >>> ((32 : Int32) &&& 0x3f).toInt64.toUInt64).toInt64).toInt32)), (own_f1 (q3.toInt32)), (own_f1 (((q3.toUInt64 >>> ((32 : Int32) &&& 0x3f).toInt64.toUInt64).toInt64).toInt32))] : List Int32) := ⟨_, rfl⟩
  have hlt : ts.length = 4 := by rw [ets]; rfl
  have hts : ∀ c ∈ ts, ¬ c < 0 ∧ ¬ (65535 : Int32) < c := fun c hc => by
    rw [ets] at hc
    simp only [List.mem_cons, List.not_mem_nil, or_false] at hc
    rcases hc with rfl | rfl | rfl | rfl <;> exact own_f1b _
  have VN241 : Arv Z h231 b188 k188 .char (4 : Int32) (ts.map Value.int) (.int 0) := by
    have q := V_b188_231'
    simp only [own_n1] at q
    rw [ets]; exact q
  have pre242 : PQ p e below m S0 T231 130 #[.val (.long q1), .second, .val (.long q2), .second, .val (.long q3), .second, iv p4, iv b0, iv b1, iv bl, rv a76, rv b188, iv ((p4 &&& (7 : Int32)) % (5 : Int32)), un, un, un, un, un, un, un, un, un] [] := by
    intro t kt
    refine pre240 t ?_
    refine ow_iload X231.here hx hby at_121 rfl ?_
    refine ow_bipush X231.here hx hby at_123 (v := 7) rfl ?_
    refine ow_iand X231.here hx hby at_125 ?_
    refine ow_iconst X231.here hx hby at_126 (v := 5) rfl ?_
    refine iremM X231 hx rfl (hb hby at_127) rfl (by decide) ?_
    show SQ p e below m T231 128 #[.val (.long q1), .second, .val (.long q2), .second, .val (.long q3), .second, iv p4, iv b0, iv b1, iv bl, rv a76, rv b188, un, un, un, un, un, un, un, un, un, un] [(.int ((p4 &&& (7 : Int32)) % (5 : Int32)))] _
    refine ow_istore X231.here hx hby at_128 (l' := #[.val (.long q1), .second, .val (.long q2), .second, .val (.long q3), .second, iv p4, iv b0, iv b1, iv bl, rv a76, rv b188, iv ((p4 &&& (7 : Int32)) % (5 : Int32)), un, un, un, un, un, un, un, un, un]) rfl ?_
    exact kt
  obtain ⟨no1, hno1, eno1⟩ := own_o p4
  rw [eno1] at pre242
  have pre243 : PQ p e below m S0 T231 144 #[.val (.long q1), .second, .val (.long q2), .second, .val (.long q3), .second, iv p4, iv b0, iv b1, iv bl, rv a76, rv b188, iv (Int32.ofNat no1), iv ((((p4.toUInt32 >>> ((3 : Int32) &&& 31).toUInt32).toInt32) &&& (7 : Int32)) % ((5 : Int32) - (Int32.ofNat no1))), un, un, un, un, un, un, un, un] [] := by
    intro t kt
    refine pre242 t ?_
    refine ow_iload X231.here hx hby at_130 rfl ?_
    refine ow_iconst X231.here hx hby at_132 (v := 3) rfl ?_
    refine XS.iushr X231.here hx rfl (hb hby at_133) rfl ?_
    show SQ p e below m T231 134 #[.val (.long q1), .second, .val (.long q2), .second, .val (.long q3), .second, iv p4, iv b0, iv b1, iv bl, rv a76, rv b188, iv (Int32.ofNat no1), un, un, un, un, un, un, un, un, un] [(.int ((p4.toUInt32 >>> ((3 : Int32) &&& 31).toUInt32).toInt32))] _
    refine ow_bipush X231.here hx hby at_134 (v := 7) rfl ?_
    refine ow_iand X231.here hx hby at_136 ?_
    refine ow_iconst X231.here hx hby at_137 (v := 5) rfl ?_
    refine ow_iload X231.here hx hby at_138 rfl ?_
    refine ow_isub X231.here hx hby at_140 ?_
    refine iremM X231 hx rfl (hb hby at_141) rfl (own_nz hno1) ?_
    show SQ p e below m T231 142 #[.val (.long q1), .second, .val (.long q2), .second, .val (.long q3), .second, iv p4, iv b0, iv b1, iv bl, rv a76, rv b188, iv (Int32.ofNat no1), un, un, un, un, un, un, un, un, un] [(.int ((((p4.toUInt32 >>> ((3 : Int32) &&& 31).toUInt32).toInt32) &&& (7 : Int32)) % ((5 : Int32) - (Int32.ofNat no1))))] _
    refine ow_istore X231.here hx hby at_142 (l' := #[.val (.long q1), .second, .val (.long q2), .second, .val (.long q3), .second, iv p4, iv b0, iv b1, iv bl, rv a76, rv b188, iv (Int32.ofNat no1), iv ((((p4.toUInt32 >>> ((3 : Int32) &&& 31).toUInt32).toInt32) &&& (7 : Int32)) % ((5 : Int32) - (Int32.ofNat no1))), un, un, un, un, un, un, un, un]) rfl ?_
    exact kt
  obtain ⟨nl1, hnl1, enl1⟩ := own_l ((p4.toUInt32 >>> ((3 : Int32) &&& 31).toUInt32).toInt32) hno1
  rw [enl1] at pre243
  have pre244 : PQ p e below m S0 T231 156 #[.val (.long q1), .second, .val (.long q2), .second, .val (.long q3), .second, iv p4, iv b0, iv b1, iv bl, rv a76, rv b188, iv (Int32.ofNat no1), iv (Int32.ofNat nl1), iv ((((p4.toUInt32 >>> ((6 : Int32) &&& 31).toUInt32).toInt32) &&& (7 : Int32)) % (5 : Int32)), un, un, un, un, un, un, un] [] := by
    intro t kt
    refine pre243 t ?_
    refine ow_iload X231.here hx hby at_144 rfl ?_
    refine ow_bipush X231.here hx hby at_146 (v := 6) rfl ?_
    refine XS.iushr X231.here hx rfl (hb hby at_148) rfl ?_
    show SQ p e below m T231 149 #[.val (.long q1), .second, .val (.long q2), .second, .val (.long q3), .second, iv p4, iv b0, iv b1, iv bl, rv a76, rv b188, iv (Int32.ofNat no1), iv (Int32.ofNat nl1), un, un, un, un, un, un, un, un] [(.int ((p4.toUInt32 >>> ((6 : Int32) &&& 31).toUInt32).toInt32))] _
    refine ow_bipush X231.here hx hby at_149 (v := 7) rfl ?_
    refine ow_iand X231.here hx hby at_151 ?_
    refine ow_iconst X231.here hx hby at_152 (v := 5) rfl ?_
    refine iremM X231 hx rfl (hb hby at_153) rfl (by decide) ?_
    show SQ p e below m T231 154 #[.val (.long q1), .second, .val (.long q2), .second, .val (.long q3), .second, iv p4, iv b0, iv b1, iv bl, rv a76, rv b188, iv (Int32.ofNat no1), iv (Int32.ofNat nl1), un, un, un, un, un, un, un, un] [(.int ((((p4.toUInt32 >>> ((6 : Int32) &&& 31).toUInt32).toInt32) &&& (7 : Int32)) % (5 : Int32)))] _
    refine ow_istore X231.here hx hby at_154 (l' := #[.val (.long q1), .second, .val (.long q2), .second, .val (.long q3), .second, iv p4, iv b0, iv b1, iv bl, rv a76, rv b188, iv (Int32.ofNat no1), iv (Int32.ofNat nl1), iv ((((p4.toUInt32 >>> ((6 : Int32) &&& 31).toUInt32).toInt32) &&& (7 : Int32)) % (5 : Int32)), un, un, un, un, un, un, un]) rfl ?_
    exact kt
  obtain ⟨no2, hno2, eno2⟩ := own_o ((p4.toUInt32 >>> ((6 : Int32) &&& 31).toUInt32).toInt32)
  rw [eno2] at pre244
  have pre245 : PQ p e below m S0 T231 171 #[.val (.long q1), .second, .val (.long q2), .second, .val (.long q3), .second, iv p4, iv b0, iv b1, iv bl, rv a76, rv b188, iv (Int32.ofNat no1), iv (Int32.ofNat nl1), iv (Int32.ofNat no2), iv ((((p4.toUInt32 >>> ((9 : Int32) &&& 31).toUInt32).toInt32) &&& (7 : Int32)) % ((5 : Int32) - (Int32.ofNat no2))), un, un, un, un, un, un] [] := by
    intro t kt
    refine pre244 t ?_
    refine ow_iload X231.here hx hby at_156 rfl ?_
    refine ow_bipush X231.here hx hby at_158 (v := 9) rfl ?_
    refine XS.iushr X231.here hx rfl (hb hby at_160) rfl ?_
    show SQ p e below m T231 161 #[.val (.long q1), .second, .val (.long q2), .second, .val (.long q3), .second, iv p4, iv b0, iv b1, iv bl, rv a76, rv b188, iv (Int32.ofNat no1), iv (Int32.ofNat nl1), iv (Int32.ofNat no2), un, un, un, un, un, un, un] [(.int ((p4.toUInt32 >>> ((9 : Int32) &&& 31).toUInt32).toInt32))] _
    refine ow_bipush X231.here hx hby at_161 (v := 7) rfl ?_
    refine ow_iand X231.here hx hby at_163 ?_
    refine ow_iconst X231.here hx hby at_164 (v := 5) rfl ?_
    refine ow_iload X231.here hx hby at_165 rfl ?_
    refine ow_isub X231.here hx hby at_167 ?_
    refine iremM X231 hx rfl (hb hby at_168) rfl (own_nz hno2) ?_
    show SQ p e below m T231 169 #[.val (.long q1), .second, .val (.long q2), .second, .val (.long q3), .second, iv p4, iv b0, iv b1, iv bl, rv a76, rv b188, iv (Int32.ofNat no1), iv (Int32.ofNat nl1), iv (Int32.ofNat no2), un, un, un, un, un, un, un] [(.int ((((p4.toUInt32 >>> ((9 : Int32) &&& 31).toUInt32).toInt32) &&& (7 : Int32)) % ((5 : Int32) - (Int32.ofNat no2))))] _
    refine ow_istore X231.here hx hby at_169 (l' := #[.val (.long q1), .second, .val (.long q2), .second, .val (.long q3), .second, iv p4, iv b0, iv b1, iv bl, rv a76, rv b188, iv (Int32.ofNat no1), iv (Int32.ofNat nl1), iv (Int32.ofNat no2), iv ((((p4.toUInt32 >>> ((9 : Int32) &&& 31).toUInt32).toInt32) &&& (7 : Int32)) % ((5 : Int32) - (Int32.ofNat no2))), un, un, un, un, un, un]) rfl ?_
    exact kt
  obtain ⟨nl2, hnl2, enl2⟩ := own_l ((p4.toUInt32 >>> ((9 : Int32) &&& 31).toUInt32).toInt32) hno2
  rw [enl2] at pre245
  have pre246 : PQ p e below m S0 T231 188 #[.val (.long q1), .second, .val (.long q2), .second, .val (.long q3), .second, iv p4, iv b0, iv b1, iv bl, rv a76, rv b188, iv (Int32.ofNat no1), iv (Int32.ofNat nl1), iv (Int32.ofNat no2), iv (Int32.ofNat nl2), iv 2, un, un, un, un, un] [(.int bl), (.int b1), (.int b0), (.int (Int32.ofNat nl1)), (.int (Int32.ofNat no1)), (.ref b188), (.int 2)] := by
    intro t kt
    refine pre245 t ?_
    refine ow_iconst X231.here hx hby at_171 (v := 2) rfl ?_
    refine ow_istore X231.here hx hby at_172 (l' := #[.val (.long q1), .second, .val (.long q2), .second, .val (.long q3), .second, iv p4, iv b0, iv b1, iv bl, rv a76, rv b188, iv (Int32.ofNat no1), iv (Int32.ofNat nl1), iv (Int32.ofNat no2), iv (Int32.ofNat nl2), iv 2, un, un, un, un, un]) rfl ?_
    refine ow_iload X231.here hx hby at_174 rfl ?_
    refine ow_aload X231.here hx hby at_176 rfl rfl ?_
    refine ow_iload X231.here hx hby at_178 rfl ?_
    refine ow_iload X231.here hx hby at_180 rfl ?_
    refine ow_iload X231.here hx hby at_182 rfl ?_
    refine ow_iload X231.here hx hby at_184 rfl ?_
    refine ow_iload X231.here hx hby at_186 rfl ?_
    exact kt
  obtain ⟨_, _, ⟨T247, L247, k247, n247⟩, -, X247, ⟨Lc247, hQ247, l247, y247, z247⟩, st247⟩ := Jvm.LawKit.callS X231 hx (y := mn39) hown (mw hZ hw 14 rfl) (mw hZ hw 15 rfl) (mw hZ hw 2 rfl) (mw hZ hw 16 rfl) (by decide) (backOf (W := 0) (rm2 l Z a0 hw [] (2 : Int32) b188 (Int32.ofNat no1) (Int32.ofNat nl1) b0 b1 bl k188 ts no1 nl1 h231 n0 Z231 VN241 (rfl) (rfl) (hnl1) (hlt) (hts)) hZ (wi hw 16 rfl) (wi hw 2 rfl) (by decide) (by decide)) (g := (mkF m 188 #[.val (.long q1), .second, .val (.long q2), .second, .val (.long q3), .second, iv p4, iv b0, iv b1, iv bl, rv a76, rv b188, iv (Int32.ofNat no1), iv (Int32.ofNat nl1), iv (Int32.ofNat no2), iv (Int32.ofNat nl2), iv 2, un, un, un, un, un] [(.int bl), (.int b1), (.int b0), (.int (Int32.ofNat nl1)), (.int (Int32.ofNat no1)), (.ref b188), (.int 2)])) rfl (by rw [hml]; rfl) (argsL := [(.int 2), (.ref b188), (.int (Int32.ofNat no1)), (.int (Int32.ofNat nl1)), (.int b0), (.int b1), (.int bl)]) (rest := []) (lenOf pd_29 rfl) rfl (by show 2 * 0 + _ ≤ _; exact Nat.le_of_eq rfl) (hb hby at_188) (fun _ _ => ⟨rfl, e231, (by decide : 5 + 0 ≤ _), (by decide : 16 + 0 ≤ _)⟩)
  dsimp only [Pt.U, Pt.locs, Pt.cells, Pt.slots] at X247 l247 y247 z247 st247 hQ247
  subst l247 y247 z247
  obtain ⟨rfl, N247q, e247⟩ := hQ247
  have N247 := Fr.app N231 N247q
  have pre247 : PQ p e below m S0 T247 191 #[.val (.long q1), .second, .val (.long q2), .second, .val (.long q3), .second, iv p4, iv b0, iv b1, iv bl, rv a76, rv b188, iv (Int32.ofNat no1), iv (Int32.ofNat nl1), iv (Int32.ofNat no2), iv (Int32.ofNat nl2), iv 2, un, un, un, un, un] [(.int (own_pc b0 b1 bl (own_seg ts no1 nl1) (2 : Int32)))] := fun t kt => pre246 t (st247 _ kt)
  have pre248 : PQ p e below m S0 T247 193 #[.val (.long q1), .second, .val (.long q2), .second, .val (.long q3), .second, iv p4, iv b0, iv b1, iv bl, rv a76, rv b188, iv (Int32.ofNat no1), iv (Int32.ofNat nl1), iv (Int32.ofNat no2), iv (Int32.ofNat nl2), iv (own_pc b0 b1 bl (own_seg ts no1 nl1) (2 : Int32)), un, un, un, un, un] [] := by
    intro t kt
    refine pre247 t ?_
    refine ow_istore X247.here hx hby at_191 (l' := #[.val (.long q1), .second, .val (.long q2), .second, .val (.long q3), .second, iv p4, iv b0, iv b1, iv bl, rv a76, rv b188, iv (Int32.ofNat no1), iv (Int32.ofNat nl1), iv (Int32.ofNat no2), iv (Int32.ofNat nl2), iv (own_pc b0 b1 bl (own_seg ts no1 nl1) (2 : Int32)), un, un, un, un, un]) rfl ?_
    exact kt
  obtain ⟨c1, ec1⟩ : ∃ z, z = (own_pc b0 b1 bl (own_seg ts no1 nl1) (2 : Int32)) := ⟨_, rfl⟩
  rw [← ec1] at pre248
  have pre249 : PQ p e below m S0 T247 213 #[.val (.long q1), .second, .val (.long q2), .second, .val (.long q3), .second, iv p4, iv b0, iv b1, iv bl, rv a76, rv b188, iv (Int32.ofNat no1), iv (Int32.ofNat nl1), iv (Int32.ofNat no2), iv (Int32.ofNat nl2), iv c1, iv ((c1.toUInt32 >>> ((1 : Int32) &&& 31).toUInt32).toInt32), un, un, un, un] [(.int bl), (.int b1), (.int b0), (.int (Int32.ofNat nl2)), (.int (Int32.ofNat no2)), (.ref b188), (.int c1)] := by
    intro t kt
    refine pre248 t ?_
    refine ow_iload X247.here hx hby at_193 rfl ?_
    refine ow_iconst X247.here hx hby at_195 (v := 1) rfl ?_
    refine XS.iushr X247.here hx rfl (hb hby at_196) rfl ?_
    show SQ p e below m T247 197 #[.val (.long q1), .second, .val (.long q2), .second, .val (.long q3), .second, iv p4, iv b0, iv b1, iv bl, rv a76, rv b188, iv (Int32.ofNat no1), iv (Int32.ofNat nl1), iv (Int32.ofNat no2), iv (Int32.ofNat nl2), iv c1, un, un, un, un, un] [(.int ((c1.toUInt32 >>> ((1 : Int32) &&& 31).toUInt32).toInt32))] _
    refine ow_istore X247.here hx hby at_197 (l' := #[.val (.long q1), .second, .val (.long q2), .second, .val (.long q3), .second, iv p4, iv b0, iv b1, iv bl, rv a76, rv b188, iv (Int32.ofNat no1), iv (Int32.ofNat nl1), iv (Int32.ofNat no2), iv (Int32.ofNat nl2), iv c1, iv ((c1.toUInt32 >>> ((1 : Int32) &&& 31).toUInt32).toInt32), un, un, un, un]) rfl ?_
    refine ow_iload X247.here hx hby at_199 rfl ?_
    refine ow_aload X247.here hx hby at_201 rfl rfl ?_
    refine ow_iload X247.here hx hby at_203 rfl ?_
    refine ow_iload X247.here hx hby at_205 rfl ?_
    refine ow_iload X247.here hx hby at_207 rfl ?_
    refine ow_iload X247.here hx hby at_209 rfl ?_
    refine ow_iload X247.here hx hby at_211 rfl ?_
    exact kt
  obtain ⟨_, _, ⟨T250, L250, k250, n250⟩, -, X250, ⟨Lc250, hQ250, l250, y250, z250⟩, st250⟩ := Jvm.LawKit.callS X247 hx (y := mn39) hown (mw hZ hw 14 rfl) (mw hZ hw 15 rfl) (mw hZ hw 2 rfl) (mw hZ hw 16 rfl) (by decide) (backOf (W := 0) (rm2 l Z a0 hw [] c1 b188 (Int32.ofNat no2) (Int32.ofNat nl2) b0 b1 bl k188 ts no2 nl2 h231 n0 Z231 VN241 (rfl) (rfl) (hnl2) (hlt) (hts)) hZ (wi hw 16 rfl) (wi hw 2 rfl) (by decide) (by decide)) (g := (mkF m 213 #[.val (.long q1), .second, .val (.long q2), .second, .val (.long q3), .second, iv p4, iv b0, iv b1, iv bl, rv a76, rv b188, iv (Int32.ofNat no1), iv (Int32.ofNat nl1), iv (Int32.ofNat no2), iv (Int32.ofNat nl2), iv c1, iv ((c1.toUInt32 >>> ((1 : Int32) &&& 31).toUInt32).toInt32), un, un, un, un] [(.int bl), (.int b1), (.int b0), (.int (Int32.ofNat nl2)), (.int (Int32.ofNat no2)), (.ref b188), (.int c1)])) rfl (by rw [hml]; rfl) (argsL := [(.int c1), (.ref b188), (.int (Int32.ofNat no2)), (.int (Int32.ofNat nl2)), (.int b0), (.int b1), (.int bl)]) (rest := []) (lenOf pd_29 rfl) rfl (by show 2 * 0 + _ ≤ _; exact Nat.le_of_eq rfl) (hb hby at_213) (fun _ _ => ⟨rfl, e247, (by decide : 5 + 0 ≤ _), (by decide : 16 + 0 ≤ _)⟩)
  dsimp only [Pt.U, Pt.locs, Pt.cells, Pt.slots] at X250 l250 y250 z250 st250 hQ250
  subst l250 y250 z250
  obtain ⟨rfl, N250q, e250⟩ := hQ250
  have N250 := Fr.app N247 N250q
  have pre250 : PQ p e below m S0 T250 216 #[.val (.long q1), .second, .val (.long q2), .second, .val (.long q3), .second, iv p4, iv b0, iv b1, iv bl, rv a76, rv b188, iv (Int32.ofNat no1), iv (Int32.ofNat nl1), iv (Int32.ofNat no2), iv (Int32.ofNat nl2), iv c1, iv ((c1.toUInt32 >>> ((1 : Int32) &&& 31).toUInt32).toInt32), un, un, un, un] [(.int (own_pc b0 b1 bl (own_seg ts no2 nl2) c1))] := fun t kt => pre249 t (st250 _ kt)
  have pre251 : PQ p e below m S0 T250 218 #[.val (.long q1), .second, .val (.long q2), .second, .val (.long q3), .second, iv p4, iv b0, iv b1, iv bl, rv a76, rv b188, iv (Int32.ofNat no1), iv (Int32.ofNat nl1), iv (Int32.ofNat no2), iv (Int32.ofNat nl2), iv (own_pc b0 b1 bl (own_seg ts no2 nl2) c1), iv ((c1.toUInt32 >>> ((1 : Int32) &&& 31).toUInt32).toInt32), un, un, un, un] [] := by
    intro t kt
    refine pre250 t ?_
    refine ow_istore X250.here hx hby at_216 (l' := #[.val (.long q1), .second, .val (.long q2), .second, .val (.long q3), .second, iv p4, iv b0, iv b1, iv bl, rv a76, rv b188, iv (Int32.ofNat no1), iv (Int32.ofNat nl1), iv (Int32.ofNat no2), iv (Int32.ofNat nl2), iv (own_pc b0 b1 bl (own_seg ts no2 nl2) c1), iv ((c1.toUInt32 >>> ((1 : Int32) &&& 31).toUInt32).toInt32), un, un, un, un]) rfl ?_
    exact kt
  obtain ⟨c2, ec2⟩ : ∃ z, z = (own_pc b0 b1 bl (own_seg ts no2 nl2) c1) := ⟨_, rfl⟩
  rw [← ec2] at pre251
  have pre252 : PQ p e below m S0 T250 224 #[.val (.long q1), .second, .val (.long q2), .second, .val (.long q3), .second, iv p4, iv b0, iv b1, iv bl, rv a76, rv b188, iv (Int32.ofNat no1), iv (Int32.ofNat nl1), iv (Int32.ofNat no2), iv (Int32.ofNat nl2), iv c2, iv ((c1.toUInt32 >>> ((1 : Int32) &&& 31).toUInt32).toInt32), iv ((c2.toUInt32 >>> ((1 : Int32) &&& 31).toUInt32).toInt32), un, un, un] [] := by
    intro t kt
    refine pre251 t ?_
    refine ow_iload X250.here hx hby at_218 rfl ?_
    refine ow_iconst X250.here hx hby at_220 (v := 1) rfl ?_
    refine XS.iushr X250.here hx rfl (hb hby at_221) rfl ?_
    show SQ p e below m T250 222 #[.val (.long q1), .second, .val (.long q2), .second, .val (.long q3), .second, iv p4, iv b0, iv b1, iv bl, rv a76, rv b188, iv (Int32.ofNat no1), iv (Int32.ofNat nl1), iv (Int32.ofNat no2), iv (Int32.ofNat nl2), iv c2, iv ((c1.toUInt32 >>> ((1 : Int32) &&& 31).toUInt32).toInt32), un, un, un, un] [(.int ((c2.toUInt32 >>> ((1 : Int32) &&& 31).toUInt32).toInt32))] _
    refine ow_istore X250.here hx hby at_222 (l' := #[.val (.long q1), .second, .val (.long q2), .second, .val (.long q3), .second, iv p4, iv b0, iv b1, iv bl, rv a76, rv b188, iv (Int32.ofNat no1), iv (Int32.ofNat nl1), iv (Int32.ofNat no2), iv (Int32.ofNat nl2), iv c2, iv ((c1.toUInt32 >>> ((1 : Int32) &&& 31).toUInt32).toInt32), iv ((c2.toUInt32 >>> ((1 : Int32) &&& 31).toUInt32).toInt32), un, un, un]) rfl ?_
    exact kt
  obtain ⟨T253, h253, X253, e253, E253, A253, D253, -, st253⟩ := newO X250 hx hZ hown (wi hw 17 rfl) (wi hw 18 rfl) (wi hw 19 rfl) e250 (g := (mkF m 224 #[.val (.long q1), .second, .val (.long q2), .second, .val (.long q3), .second, iv p4, iv b0, iv b1, iv bl, rv a76, rv b188, iv (Int32.ofNat no1), iv (Int32.ofNat nl1), iv (Int32.ofNat no2), iv (Int32.ofNat nl2), iv c2, iv ((c1.toUInt32 >>> ((1 : Int32) &&& 31).toUInt32).toInt32), iv ((c2.toUInt32 >>> ((1 : Int32) &&& 31).toUInt32).toInt32), un, un, un] [])) rfl (hb hby at_224) (by decide) (by decide)
  obtain ⟨b253, g253⟩ : ∃ z, z = h231.size := ⟨_, rfl⟩
  have ne_a76_b253 : a76 ≠ b253 := Nat.ne_of_lt (Nat.lt_of_lt_of_le E76_237.lt (Nat.le_of_eq g253.symm))
  have ne_b188_b253 : b188 ≠ b253 := Nat.ne_of_lt (Nat.lt_of_lt_of_le VN241.lt (Nat.le_of_eq g253.symm))
  have g_b253 : n0 ≤ b253 := Nat.le_trans Z231 (Nat.le_of_eq g253.symm)
  have sz_b253 : h0.size ≤ b253 := Nat.le_trans K231.1 (Nat.le_of_eq g253.symm)
  rw [← g253] at A253 D253 st253
  have K253 := K231.ext E253
  have Z253 := Nat.le_trans Z231 E253.1
  have mo253_0 := Nat.le_trans mo231_0 E253.1
  have CR253 := CR231.trans (CHr.ext E253 CR231.1)
  have SCS_254 := SCS_232.ext E253
  have SFM_255 := SFM_233.ext E253
  have SAD_256 := SAD_234.ext E253
  have SHI_257 := SHI_235.ext E253
  have SLO_258 := SLO_236.ext E253
  have E76_259 := E76_237.ext E253
  have SS76_260 := own_Sext SS76_238 E253
  have V_b188_261 := VN241.ext E253
  have Fl_b253 : fld2 Z h253 b253 (.int 0) := D253 (Or.inl (wi hw 27 rfl)) (ty := .int) (by decide)
  have Fb_b253 : fld4 Z h253 b253 .null := D253 (Or.inr (wi hw 29 rfl)) (ty := (.object "java/lang/String")) (by decide)
  have Fh_b253 : fld5 Z h253 b253 (.int 0) := D253 (Or.inr (wi hw 44 rfl)) (ty := .char) (by decide)
  have Fa_b253 : fld3 Z h253 b253 (.int 0) := D253 (Or.inl (wi hw 104 rfl)) (ty := .boolean) (by decide)
  have pre253 : PQ p e below m S0 T253 227 #[.val (.long q1), .second, .val (.long q2), .second, .val (.long q3), .second, iv p4, iv b0, iv b1, iv bl, rv a76, rv b188, iv (Int32.ofNat no1), iv (Int32.ofNat nl1), iv (Int32.ofNat no2), iv (Int32.ofNat nl2), iv c2, iv ((c1.toUInt32 >>> ((1 : Int32) &&& 31).toUInt32).toInt32), iv ((c2.toUInt32 >>> ((1 : Int32) &&& 31).toUInt32).toInt32), un, un, un] [(.ref b253)] := fun t kt => pre252 t (st253 _ kt)
  have pre262 : PQ p e below m S0 T253 230 #[.val (.long q1), .second, .val (.long q2), .second, .val (.long q3), .second, iv p4, iv b0, iv b1, iv bl, rv a76, rv b188, iv (Int32.ofNat no1), iv (Int32.ofNat nl1), iv (Int32.ofNat no2), iv (Int32.ofNat nl2), iv c2, iv ((c1.toUInt32 >>> ((1 : Int32) &&& 31).toUInt32).toInt32), iv ((c2.toUInt32 >>> ((1 : Int32) &&& 31).toUInt32).toInt32), un, un, un] [(.ref a76), (.ref b253), (.ref b253)] := by
    intro t kt
    refine pre253 t ?_
    refine ow_dup X253.here hx hby at_227 rfl ?_
    refine ow_aload X253.here hx hby at_228 rfl rfl ?_
    exact kt
  obtain ⟨_, _, ⟨T263, L263, k263, n263⟩, -, X263, ⟨Lc263, hQ263, l263, y263, z263⟩, st263⟩ := X253.specialBack hx (y := mn23) rfl hown (mw hZ hw 20 rfl) (mw hZ hw 21 rfl) (mw hZ hw 22 rfl) (by decide) (backOf (W := 1) (rm3S l Z a0 hw [] b253 a76 cs cz fm h253 n0 Z253 A253 Fl_b253 Fb_b253 Fh_b253 Fa_b253 E76_259 SS76_260 SCS_254 SFM_255 SAD_256 SHI_257 SLO_258 g_b253 (hCS) (hFM) (hk)) hZ (wi hw 22 rfl) (wi hw 19 rfl) (by decide) (by decide)) (g := (mkF m 230 #[.val (.long q1), .second, .val (.long q2), .second, .val (.long q3), .second, iv p4, iv b0, iv b1, iv bl, rv a76, rv b188, iv (Int32.ofNat no1), iv (Int32.ofNat nl1), iv (Int32.ofNat no2), iv (Int32.ofNat nl2), iv c2, iv ((c1.toUInt32 >>> ((1 : Int32) &&& 31).toUInt32).toInt32), iv ((c2.toUInt32 >>> ((1 : Int32) &&& 31).toUInt32).toInt32), un, un, un] [(.ref a76), (.ref b253), (.ref b253)])) rfl (by rw [hml]; rfl) (Steps.refl _) (a := b253) (argsL := [(.ref a76)]) (rest := [(.ref b253)]) (lenOf pd_30 rfl) rfl (by show 2 * 0 + _ ≤ _; exact Nat.le_of_eq rfl) (hb hby at_230) (fun _ _ => ⟨rfl, e253, (by decide : 6 + 0 ≤ _), (by decide : 20 + 0 ≤ _)⟩)
  dsimp only [Pt.U, Pt.locs, Pt.cells, Pt.slots] at X263 l263 y263 z263 st263 hQ263
  subst l263 y263 z263
  obtain ⟨rfl, N263q, KC263, P263_0, P263_1, P263_2, P263_3, P263_4⟩ := hQ263
  have N263 := Fr.app N250 N263q
  have Z263 : n0 ≤ T263.heap.size := Nat.le_trans Z253 KC263.1
  have mo263_0 := Nat.le_trans mo253_0 KC263.1
  have CR263 := CR253.trans (CHr.keep KC263 (sfS (Safe.exa (hZ.alike) A253 (by decide) (by decide)) sf0) CR253.1)
  have K263 := K253.trans KC263 (allS (Or.inr sz_b253) all0)
  have SCS_264 := own_stak SCS_254 KC263 (nsS A253.nostat ns0)
  have SFM_265 := own_stak SFM_255 KC263 (nsS A253.nostat ns0)
  have SAD_266 := own_stak SAD_256 KC263 (nsS A253.nostat ns0)
  have SHI_267 := own_stak SHI_257 KC263 (nsS A253.nostat ns0)
  have SLO_268 := own_stak SLO_258 KC263 (nsS A253.nostat ns0)
  have E76_269 := E76_259.keep KC263
  have SS76_270 := own_Skeep SS76_260 KC263 A253 (wi hw 18 rfl) (by decide)
  have V_b188_271 := V_b188_261.keep KC263 (ninS ne_b188_b253 nin0)
  have A253_272 := A253.keep KC263
  have E_b253_263 : exa1 Z T263.heap b253 := P263_0
  have Fl_b253_263 : fld2 Z T263.heap b253 (.int 1) := P263_1
  have Fb_b253_263 : fld4 Z T263.heap b253 (.ref a76) := P263_2
  have Fh_b253_263 : fld5 Z T263.heap b253 (.int (own_hg cs)) := P263_3
  have Fa_b253_263 : fld3 Z T263.heap b253 (.int 0) := P263_4
  have pre263 : PQ p e below m S0 T263 233 #[.val (.long q1), .second, .val (.long q2), .second, .val (.long q3), .second, iv p4, iv b0, iv b1, iv bl, rv a76, rv b188, iv (Int32.ofNat no1), iv (Int32.ofNat nl1), iv (Int32.ofNat no2), iv (Int32.ofNat nl2), iv c2, iv ((c1.toUInt32 >>> ((1 : Int32) &&& 31).toUInt32).toInt32), iv ((c2.toUInt32 >>> ((1 : Int32) &&& 31).toUInt32).toInt32), un, un, un] [(.ref b253)] := fun t kt => pre262 t (st263.trans kt)
  have pre277 : PQ p e below m S0 T263 243 #[.val (.long q1), .second, .val (.long q2), .second, .val (.long q3), .second, iv p4, iv b0, iv b1, iv bl, rv a76, rv b188, iv (Int32.ofNat no1), iv (Int32.ofNat nl1), iv (Int32.ofNat no2), iv (Int32.ofNat nl2), iv c2, iv ((c1.toUInt32 >>> ((1 : Int32) &&& 31).toUInt32).toInt32), iv ((c2.toUInt32 >>> ((1 : Int32) &&& 31).toUInt32).toInt32), rv b253, un, un] [(.int (Int32.ofNat nl1)), (.int (Int32.ofNat no1)), (.ref b188), (.ref b253)] := by
    intro t kt
    refine pre263 t ?_
    refine ow_astore X263.here hx hby at_233 rfl (l' := #[.val (.long q1), .second, .val (.long q2), .second, .val (.long q3), .second, iv p4, iv b0, iv b1, iv bl, rv a76, rv b188, iv (Int32.ofNat no1), iv (Int32.ofNat nl1), iv (Int32.ofNat no2), iv (Int32.ofNat nl2), iv c2, iv ((c1.toUInt32 >>> ((1 : Int32) &&& 31).toUInt32).toInt32), iv ((c2.toUInt32 >>> ((1 : Int32) &&& 31).toUInt32).toInt32), rv b253, un, un]) rfl ?_
    refine ow_aload X263.here hx hby at_235 rfl rfl ?_
    refine ow_aload X263.here hx hby at_237 rfl rfl ?_
    refine ow_iload X263.here hx hby at_239 rfl ?_
    refine ow_iload X263.here hx hby at_241 rfl ?_
    exact kt
  obtain ⟨cq278, kq278, q278a, q278b, q278c⟩ := isOf hZ rfl E_b253_263
  obtain ⟨_, _, ⟨T278, L278, k278, n278⟩, -, X278, ⟨Lc278, hQ278, l278, y278, z278⟩, st278⟩ := X263.virtualBack hx (y := mn24) (z := mn24) hown (mw hZ hw 45 rfl) (mw hZ hw 46 rfl) (notFace_of_selects (args := #[]) (mw hZ hw 48 rfl)) (mw hZ hw 48 rfl) (mw hZ hw 47 rfl) (by decide) (backOf (W := 0) (rm7 l Z a0 hw [] b253 b188 (Int32.ofNat no1) (Int32.ofNat nl1) a76 (1 : Int32) (own_hg cs) (0 : Int32) cs cz fm k188 ts no1 nl1 T263.heap n0 Z263 E_b253_263 Fl_b253_263 Fb_b253_263 Fh_b253_263 Fa_b253_263 E76_269 SS76_270 SCS_264 SFM_265 SAD_266 SHI_267 SLO_268 V_b188_271 g_b253 (hCS) (hFM) (hk) (rfl) (rfl) (hnl1) (hlt) (hts)) hZ (wi hw 49 rfl) (wi hw 19 rfl) (by decide) (by decide)) q278a q278c (g := (mkF m 243 #[.val (.long q1), .second, .val (.long q2), .second, .val (.long q3), .second, iv p4, iv b0, iv b1, iv bl, rv a76, rv b188, iv (Int32.ofNat no1), iv (Int32.ofNat nl1), iv (Int32.ofNat no2), iv (Int32.ofNat nl2), iv c2, iv ((c1.toUInt32 >>> ((1 : Int32) &&& 31).toUInt32).toInt32), iv ((c2.toUInt32 >>> ((1 : Int32) &&& 31).toUInt32).toInt32), rv b253, un, un] [(.int (Int32.ofNat nl1)), (.int (Int32.ofNat no1)), (.ref b188), (.ref b253)])) rfl (by rw [hml]; rfl) (Steps.refl _) (argsL := [(.ref b188), (.int (Int32.ofNat no1)), (.int (Int32.ofNat nl1))]) (rest := []) (lenOf pd_31 rfl) rfl (by show 2 * 0 + _ ≤ _; exact Nat.le_of_eq rfl) (hb hby at_243) (fun _ _ => ⟨rfl, rfl, (by decide : 6 + 0 ≤ _), (by decide : 20 + 0 ≤ _)⟩)
  dsimp only [Pt.U, Pt.locs, Pt.cells, Pt.slots] at X278 l278 y278 z278 st278 hQ278
  subst l278 y278 z278
  obtain ⟨rfl, N278q, KC278, P278_0, P278_1, P278_2, P278_3, P278_4⟩ := hQ278
  have N278 := Fr.app N263 N278q
  have Z278 : n0 ≤ T278.heap.size := Nat.le_trans Z263 KC278.1
  have mo278_0 := Nat.le_trans mo263_0 KC278.1
  have CR278 := CR263.trans (CHr.keep KC278 (sfS (Safe.exa (hZ.alike) E_b253_263 (by decide) (by decide)) sf0) CR263.1)
  have K278 := K263.trans KC278 (allS (Or.inr sz_b253) all0)
  have SCS_279 := own_stak SCS_264 KC278 (nsS E_b253_263.nostat ns0)
  have SFM_280 := own_stak SFM_265 KC278 (nsS E_b253_263.nostat ns0)
  have SAD_281 := own_stak SAD_266 KC278 (nsS E_b253_263.nostat ns0)
  have SHI_282 := own_stak SHI_267 KC278 (nsS E_b253_263.nostat ns0)
  have SLO_283 := own_stak SLO_268 KC278 (nsS E_b253_263.nostat ns0)
  have E76_284 := E76_269.keep KC278
  have SS76_285 := own_Skeep SS76_270 KC278 E_b253_263 (wi hw 18 rfl) (by decide)
  have V_b188_286 := V_b188_271.keep KC278 (ninS ne_b188_b253 nin0)
  have E_b253_263_287 := E_b253_263.keep KC278
  have E_b253_278 : exa1 Z T278.heap b253 := P278_0
  have Fl_b253_278 : fld2 Z T278.heap b253 (.int (own_run cs (own_hg cs) (own_seg ts no1 nl1) ((1 : Int32), (0 : Int32))).1) := P278_1
  have Fb_b253_278 : fld4 Z T278.heap b253 (.ref a76) := P278_2
  have Fh_b253_278 : fld5 Z T278.heap b253 (.int (own_hg cs)) := P278_3
  have Fa_b253_278 : fld3 Z T278.heap b253 (.int (own_run cs (own_hg cs) (own_seg ts no1 nl1) ((1 : Int32), (0 : Int32))).2) := P278_4
  have pre278 : PQ p e below m S0 T278 246 #[.val (.long q1), .second, .val (.long q2), .second, .val (.long q3), .second, iv p4, iv b0, iv b1, iv bl, rv a76, rv b188, iv (Int32.ofNat no1), iv (Int32.ofNat nl1), iv (Int32.ofNat no2), iv (Int32.ofNat nl2), iv c2, iv ((c1.toUInt32 >>> ((1 : Int32) &&& 31).toUInt32).toInt32), iv ((c2.toUInt32 >>> ((1 : Int32) &&& 31).toUInt32).toInt32), rv b253, un, un] [] := fun t kt => pre277 t (st278.trans kt)
  have pre292 : PQ p e below m S0 T278 248 #[.val (.long q1), .second, .val (.long q2), .second, .val (.long q3), .second, iv p4, iv b0, iv b1, iv bl, rv a76, rv b188, iv (Int32.ofNat no1), iv (Int32.ofNat nl1), iv (Int32.ofNat no2), iv (Int32.ofNat nl2), iv c2, iv ((c1.toUInt32 >>> ((1 : Int32) &&& 31).toUInt32).toInt32), iv ((c2.toUInt32 >>> ((1 : Int32) &&& 31).toUInt32).toInt32), rv b253, un, un] [(.ref b253)] := by
    intro t kt
    refine pre278 t ?_
    refine ow_aload X278.here hx hby at_246 rfl rfl ?_
    exact kt
  obtain ⟨cq293, kq293, q293a, q293b, q293c⟩ := isOf hZ rfl E_b253_278
  obtain ⟨_, _, ⟨T293, L293, k293, n293⟩, -, X293, ⟨Lc293, hQ293, l293, y293, z293⟩, st293⟩ := X278.virtualBack hx (y := mn25) (z := mn25) hown (mw hZ hw 50 rfl) (mw hZ hw 51 rfl) (notFace_of_selects (args := #[]) (mw hZ hw 53 rfl)) (mw hZ hw 53 rfl) (mw hZ hw 52 rfl) (by decide) (backOf (W := 0) (rm8 l Z a0 hw [] b253 ((own_run cs (own_hg cs) (own_seg ts no1 nl1) ((1 : Int32), (0 : Int32))).1) T278.heap n0 Z278 Fl_b253_278) hZ (wi hw 54 rfl) (wi hw 19 rfl) (by decide) (by decide)) q293a q293c (g := (mkF m 248 #[.val (.long q1), .second, .val (.long q2), .second, .val (.long q3), .second, iv p4, iv b0, iv b1, iv bl, rv a76, rv b188, iv (Int32.ofNat no1), iv (Int32.ofNat nl1), iv (Int32.ofNat no2), iv (Int32.ofNat nl2), iv c2, iv ((c1.toUInt32 >>> ((1 : Int32) &&& 31).toUInt32).toInt32), iv ((c2.toUInt32 >>> ((1 : Int32) &&& 31).toUInt32).toInt32), rv b253, un, un] [(.ref b253)])) rfl (by rw [hml]; rfl) (Steps.refl _) (argsL := []) (rest := []) (lenOf pd_13 rfl) rfl (by show 2 * 0 + _ ≤ _; exact Nat.le_of_eq rfl) (hb hby at_248) (fun _ _ => ⟨rfl, rfl, (by decide : 6 + 0 ≤ _), (by decide : 20 + 0 ≤ _)⟩)
  dsimp only [Pt.U, Pt.locs, Pt.cells, Pt.slots] at X293 l293 y293 z293 st293 hQ293
  subst l293 y293 z293
  obtain ⟨rfl, N293q, e293⟩ := hQ293
  have N293 := Fr.app N278 N293q
  have pre293 : PQ p e below m S0 T293 251 #[.val (.long q1), .second, .val (.long q2), .second, .val (.long q3), .second, iv p4, iv b0, iv b1, iv bl, rv a76, rv b188, iv (Int32.ofNat no1), iv (Int32.ofNat nl1), iv (Int32.ofNat no2), iv (Int32.ofNat nl2), iv c2, iv ((c1.toUInt32 >>> ((1 : Int32) &&& 31).toUInt32).toInt32), iv ((c2.toUInt32 >>> ((1 : Int32) &&& 31).toUInt32).toInt32), rv b253, un, un] [(.int (own_run cs (own_hg cs) (own_seg ts no1 nl1) ((1 : Int32), (0 : Int32))).1)] := fun t kt => pre292 t (st293.trans kt)
  have pre294 : PQ p e below m S0 T293 261 #[.val (.long q1), .second, .val (.long q2), .second, .val (.long q3), .second, iv p4, iv b0, iv b1, iv bl, rv a76, rv b188, iv (Int32.ofNat no1), iv (Int32.ofNat nl1), iv (Int32.ofNat no2), iv (Int32.ofNat nl2), iv c2, iv ((c1.toUInt32 >>> ((1 : Int32) &&& 31).toUInt32).toInt32), iv ((c2.toUInt32 >>> ((1 : Int32) &&& 31).toUInt32).toInt32), rv b253, iv (own_run cs (own_hg cs) (own_seg ts no1 nl1) ((1 : Int32), (0 : Int32))).1, un] [(.int (Int32.ofNat nl2)), (.int (Int32.ofNat no2)), (.ref b188), (.ref b253)] := by
    intro t kt
    refine pre293 t ?_
    refine ow_istore X293.here hx hby at_251 (l' := #[.val (.long q1), .second, .val (.long q2), .second, .val (.long q3), .second, iv p4, iv b0, iv b1, iv bl, rv a76, rv b188, iv (Int32.ofNat no1), iv (Int32.ofNat nl1), iv (Int32.ofNat no2), iv (Int32.ofNat nl2), iv c2, iv ((c1.toUInt32 >>> ((1 : Int32) &&& 31).toUInt32).toInt32), iv ((c2.toUInt32 >>> ((1 : Int32) &&& 31).toUInt32).toInt32), rv b253, iv (own_run cs (own_hg cs) (own_seg ts no1 nl1) ((1 : Int32), (0 : Int32))).1, un]) rfl ?_
    refine ow_aload X293.here hx hby at_253 rfl rfl ?_
    refine ow_aload X293.here hx hby at_255 rfl rfl ?_
    refine ow_iload X293.here hx hby at_257 rfl ?_
    refine ow_iload X293.here hx hby at_259 rfl ?_
    exact kt
  obtain ⟨cq295, kq295, q295a, q295b, q295c⟩ := isOf hZ e293 E_b253_278
  obtain ⟨_, _, ⟨T295, L295, k295, n295⟩, -, X295, ⟨Lc295, hQ295, l295, y295, z295⟩, st295⟩ := X293.virtualBack hx (y := mn24) (z := mn24) hown (mw hZ hw 45 rfl) (mw hZ hw 46 rfl) (notFace_of_selects (args := #[]) (mw hZ hw 48 rfl)) (mw hZ hw 48 rfl) (mw hZ hw 47 rfl) (by decide) (backOf (W := 0) (rm7 l Z a0 hw [] b253 b188 (Int32.ofNat no2) (Int32.ofNat nl2) a76 ((own_run cs (own_hg cs) (own_seg ts no1 nl1) ((1 : Int32), (0 : Int32))).1) (own_hg cs) ((own_run cs (own_hg cs) (own_seg ts no1 nl1) ((1 : Int32), (0 : Int32))).2) cs cz fm k188 ts no2 nl2 T278.heap n0 Z278 E_b253_278 Fl_b253_278 Fb_b253_278 Fh_b253_278 Fa_b253_278 E76_284 SS76_285 SCS_279 SFM_280 SAD_281 SHI_282 SLO_283 V_b188_286 g_b253 (hCS) (hFM) (hk) (rfl) (rfl) (hnl2) (hlt) (hts)) hZ (wi hw 49 rfl) (wi hw 19 rfl) (by decide) (by decide)) q295a q295c (g := (mkF m 261 #[.val (.long q1), .second, .val (.long q2), .second, .val (.long q3), .second, iv p4, iv b0, iv b1, iv bl, rv a76, rv b188, iv (Int32.ofNat no1), iv (Int32.ofNat nl1), iv (Int32.ofNat no2), iv (Int32.ofNat nl2), iv c2, iv ((c1.toUInt32 >>> ((1 : Int32) &&& 31).toUInt32).toInt32), iv ((c2.toUInt32 >>> ((1 : Int32) &&& 31).toUInt32).toInt32), rv b253, iv (own_run cs (own_hg cs) (own_seg ts no1 nl1) ((1 : Int32), (0 : Int32))).1, un] [(.int (Int32.ofNat nl2)), (.int (Int32.ofNat no2)), (.ref b188), (.ref b253)])) rfl (by rw [hml]; rfl) (Steps.refl _) (argsL := [(.ref b188), (.int (Int32.ofNat no2)), (.int (Int32.ofNat nl2))]) (rest := []) (lenOf pd_31 rfl) rfl (by show 2 * 0 + _ ≤ _; exact Nat.le_of_eq rfl) (hb hby at_261) (fun _ _ => ⟨rfl, e293, (by decide : 6 + 0 ≤ _), (by decide : 20 + 0 ≤ _)⟩)
  dsimp only [Pt.U, Pt.locs, Pt.cells, Pt.slots] at X295 l295 y295 z295 st295 hQ295
  subst l295 y295 z295
  obtain ⟨rfl, N295q, KC295, P295_0, P295_1, P295_2, P295_3, P295_4⟩ := hQ295
  have N295 := Fr.app N293 N295q
  have Z295 : n0 ≤ T295.heap.size := Nat.le_trans Z278 KC295.1
  have mo295_0 := Nat.le_trans mo278_0 KC295.1
  have CR295 := CR278.trans (CHr.keep KC295 (sfS (Safe.exa (hZ.alike) E_b253_278 (by decide) (by decide)) sf0) CR278.1)
  have K295 := K278.trans KC295 (allS (Or.inr sz_b253) all0)
  have SCS_296 := own_stak SCS_279 KC295 (nsS E_b253_278.nostat ns0)
  have SFM_297 := own_stak SFM_280 KC295 (nsS E_b253_278.nostat ns0)
  have SAD_298 := own_stak SAD_281 KC295 (nsS E_b253_278.nostat ns0)
  have SHI_299 := own_stak SHI_282 KC295 (nsS E_b253_278.nostat ns0)
  have SLO_300 := own_stak SLO_283 KC295 (nsS E_b253_278.nostat ns0)
  have E76_301 := E76_284.keep KC295
  have SS76_302 := own_Skeep SS76_285 KC295 E_b253_278 (wi hw 18 rfl) (by decide)
  have V_b188_303 := V_b188_286.keep KC295 (ninS ne_b188_b253 nin0)
  have E_b253_278_304 := E_b253_278.keep KC295
  have E_b253_295 : exa1 Z T295.heap b253 := P295_0
  have Fl_b253_295 : fld2 Z T295.heap b253 (.int (own_run cs (own_hg cs) (own_seg ts no2 nl2) ((own_run cs (own_hg cs) (own_seg ts no1 nl1) ((1 : Int32), (0 : Int32))).1, (own_run cs (own_hg cs) (own_seg ts no1 nl1) ((1 : Int32), (0 : Int32))).2)).1) := P295_1
  have Fb_b253_295 : fld4 Z T295.heap b253 (.ref a76) := P295_2
  have Fh_b253_295 : fld5 Z T295.heap b253 (.int (own_hg cs)) := P295_3
  have Fa_b253_295 : fld3 Z T295.heap b253 (.int (own_run cs (own_hg cs) (own_seg ts no2 nl2) ((own_run cs (own_hg cs) (own_seg ts no1 nl1) ((1 : Int32), (0 : Int32))).1, (own_run cs (own_hg cs) (own_seg ts no1 nl1) ((1 : Int32), (0 : Int32))).2)).2) := P295_4
  have pre295 : PQ p e below m S0 T295 264 #[.val (.long q1), .second, .val (.long q2), .second, .val (.long q3), .second, iv p4, iv b0, iv b1, iv bl, rv a76, rv b188, iv (Int32.ofNat no1), iv (Int32.ofNat nl1), iv (Int32.ofNat no2), iv (Int32.ofNat nl2), iv c2, iv ((c1.toUInt32 >>> ((1 : Int32) &&& 31).toUInt32).toInt32), iv ((c2.toUInt32 >>> ((1 : Int32) &&& 31).toUInt32).toInt32), rv b253, iv (own_run cs (own_hg cs) (own_seg ts no1 nl1) ((1 : Int32), (0 : Int32))).1, un] [] := fun t kt => pre294 t (st295.trans kt)
  have pre309 : PQ p e below m S0 T295 266 #[.val (.long q1), .second, .val (.long q2), .second, .val (.long q3), .second, iv p4, iv b0, iv b1, iv bl, rv a76, rv b188, iv (Int32.ofNat no1), iv (Int32.ofNat nl1), iv (Int32.ofNat no2), iv (Int32.ofNat nl2), iv c2, iv ((c1.toUInt32 >>> ((1 : Int32) &&& 31).toUInt32).toInt32), iv ((c2.toUInt32 >>> ((1 : Int32) &&& 31).toUInt32).toInt32), rv b253, iv (own_run cs (own_hg cs) (own_seg ts no1 nl1) ((1 : Int32), (0 : Int32))).1, un] [(.ref b253)] := by
    intro t kt
    refine pre295 t ?_
    refine ow_aload X295.here hx hby at_264 rfl rfl ?_
    exact kt
  obtain ⟨cq310, kq310, q310a, q310b, q310c⟩ := isOf hZ rfl E_b253_295
  obtain ⟨_, _, ⟨T310, L310, k310, n310⟩, -, X310, ⟨Lc310, hQ310, l310, y310, z310⟩, st310⟩ := X295.virtualBack hx (y := mn25) (z := mn25) hown (mw hZ hw 50 rfl) (mw hZ hw 51 rfl) (notFace_of_selects (args := #[]) (mw hZ hw 53 rfl)) (mw hZ hw 53 rfl) (mw hZ hw 52 rfl) (by decide) (backOf (W := 0) (rm8 l Z a0 hw [] b253 ((own_run cs (own_hg cs) (own_seg ts no2 nl2) ((own_run cs (own_hg cs) (own_seg ts no1 nl1) ((1 : Int32), (0 : Int32))).1, (own_run cs (own_hg cs) (own_seg ts no1 nl1) ((1 : Int32), (0 : Int32))).2)).1) T295.heap n0 Z295 Fl_b253_295) hZ (wi hw 54 rfl) (wi hw 19 rfl) (by decide) (by decide)) q310a q310c (g := (mkF m 266 #[.val (.long q1), .second, .val (.long q2), .second, .val (.long q3), .second, iv p4, iv b0, iv b1, iv bl, rv a76, rv b188, iv (Int32.ofNat no1), iv (Int32.ofNat nl1), iv (Int32.ofNat no2), iv (Int32.ofNat nl2), iv c2, iv ((c1.toUInt32 >>> ((1 : Int32) &&& 31).toUInt32).toInt32), iv ((c2.toUInt32 >>> ((1 : Int32) &&& 31).toUInt32).toInt32), rv b253, iv (own_run cs (own_hg cs) (own_seg ts no1 nl1) ((1 : Int32), (0 : Int32))).1, un] [(.ref b253)])) rfl (by rw [hml]; rfl) (Steps.refl _) (argsL := []) (rest := []) (lenOf pd_13 rfl) rfl (by show 2 * 0 + _ ≤ _; exact Nat.le_of_eq rfl) (hb hby at_266) (fun _ _ => ⟨rfl, rfl, (by decide : 6 + 0 ≤ _), (by decide : 20 + 0 ≤ _)⟩)
  dsimp only [Pt.U, Pt.locs, Pt.cells, Pt.slots] at X310 l310 y310 z310 st310 hQ310
  subst l310 y310 z310
  obtain ⟨rfl, N310q, e310⟩ := hQ310
  have N310 := Fr.app N295 N310q
  have pre310 : PQ p e below m S0 T310 269 #[.val (.long q1), .second, .val (.long q2), .second, .val (.long q3), .second, iv p4, iv b0, iv b1, iv bl, rv a76, rv b188, iv (Int32.ofNat no1), iv (Int32.ofNat nl1), iv (Int32.ofNat no2), iv (Int32.ofNat nl2), iv c2, iv ((c1.toUInt32 >>> ((1 : Int32) &&& 31).toUInt32).toInt32), iv ((c2.toUInt32 >>> ((1 : Int32) &&& 31).toUInt32).toInt32), rv b253, iv (own_run cs (own_hg cs) (own_seg ts no1 nl1) ((1 : Int32), (0 : Int32))).1, un] [(.int (own_run cs (own_hg cs) (own_seg ts no2 nl2) ((own_run cs (own_hg cs) (own_seg ts no1 nl1) ((1 : Int32), (0 : Int32))).1, (own_run cs (own_hg cs) (own_seg ts no1 nl1) ((1 : Int32), (0 : Int32))).2)).1)] := fun t kt => pre309 t (st310.trans kt)
  have pre311 : PQ p e below m S0 T310 290 #[.val (.long q1), .second, .val (.long q2), .second, .val (.long q3), .second, iv p4, iv b0, iv b1, iv bl, rv a76, rv b188, iv (Int32.ofNat no1), iv (Int32.ofNat nl1), iv (Int32.ofNat no2), iv (Int32.ofNat nl2), iv c2, iv ((c1.toUInt32 >>> ((1 : Int32) &&& 31).toUInt32).toInt32), iv ((c2.toUInt32 >>> ((1 : Int32) &&& 31).toUInt32).toInt32), rv b253, iv (own_run cs (own_hg cs) (own_seg ts no1 nl1) ((1 : Int32), (0 : Int32))).1, iv (own_run cs (own_hg cs) (own_seg ts no2 nl2) ((own_run cs (own_hg cs) (own_seg ts no1 nl1) ((1 : Int32), (0 : Int32))).1, (own_run cs (own_hg cs) (own_seg ts no1 nl1) ((1 : Int32), (0 : Int32))).2)).1] [(.int 1)] := by
    intro t kt
    refine pre310 t ?_
    refine ow_istore X310.here hx hby at_269 (l' := #[.val (.long q1), .second, .val (.long q2), .second, .val (.long q3), .second, iv p4, iv b0, iv b1, iv bl, rv a76, rv b188, iv (Int32.ofNat no1), iv (Int32.ofNat nl1), iv (Int32.ofNat no2), iv (Int32.ofNat nl2), iv c2, iv ((c1.toUInt32 >>> ((1 : Int32) &&& 31).toUInt32).toInt32), iv ((c2.toUInt32 >>> ((1 : Int32) &&& 31).toUInt32).toInt32), rv b253, iv (own_run cs (own_hg cs) (own_seg ts no1 nl1) ((1 : Int32), (0 : Int32))).1, iv (own_run cs (own_hg cs) (own_seg ts no2 nl2) ((own_run cs (own_hg cs) (own_seg ts no1 nl1) ((1 : Int32), (0 : Int32))).1, (own_run cs (own_hg cs) (own_seg ts no1 nl1) ((1 : Int32), (0 : Int32))).2)).1]) rfl ?_
    refine ow_iload X310.here hx hby at_271 rfl ?_
    refine ow_iload X310.here hx hby at_273 rfl ?_
    refine ow_icmpNo X310.here hx hby at_275 (teq (by
        have q := (own_end (b0 := b0) (b1 := b1) hB _ _ (own_segb hts no1 nl1) (own_segb hts no2 nl2) (by rw [own_segl]; omega) (by rw [own_segl]; omega)).1
        rw [← ec1] at q; exact q)).2 ?_
    refine ow_iload X310.here hx hby at_278 rfl ?_
    refine ow_iload X310.here hx hby at_280 rfl ?_
    refine ow_icmpNo X310.here hx hby at_282 (teq (by
        have q := (own_end (b0 := b0) (b1 := b1) hB _ _ (own_segb hts no1 nl1) (own_segb hts no2 nl2) (by rw [own_segl]; omega) (by rw [own_segl]; omega)).2
        rw [← ec1, ← ec2] at q; exact q)).2 ?_
    refine ow_iconst X310.here hx hby at_285 (v := 1) rfl ?_
    refine ow_goto X310.here hx hby at_286 (pc' := 290) (by decide) (by decide) ?_
    exact kt
  subst hSt
  obtain ⟨fs, hr, hu, hd, hEnd⟩ := X310.leaveW (s := s) (vm₁ := vm76) S76 (by rw [e310]; exact mo295_0) (v := some (.int 1)) (fun h => by rw [Bd.returns] at h; cases h)
  refine ⟨_, _, pre311 _ ?_, hu, hd, _, _, rfl, ?_, hEnd.1, hEnd.2.1, hEnd.2.2.1, hEnd.2.2.2.mono (by decide) (by decide)⟩
  · show SQ p e below m T310 290 #[.val (.long q1), .second, .val (.long q2), .second, .val (.long q3), .second, iv p4, iv b0, iv b1, iv bl, rv a76, rv b188, iv (Int32.ofNat no1), iv (Int32.ofNat nl1), iv (Int32.ofNat no2), iv (Int32.ofNat nl2), iv c2, iv ((c1.toUInt32 >>> ((1 : Int32) &&& 31).toUInt32).toInt32), iv ((c2.toUInt32 >>> ((1 : Int32) &&& 31).toUInt32).toInt32), rv b253, iv (own_run cs (own_hg cs) (own_seg ts no1 nl1) ((1 : Int32), (0 : Int32))).1, iv (own_run cs (own_hg cs) (own_seg ts no2 nl2) ((own_run cs (own_hg cs) (own_seg ts no1 nl1) ((1 : Int32), (0 : Int32))).1, (own_run cs (own_hg cs) (own_seg ts no1 nl1) ((1 : Int32), (0 : Int32))).2)).1] [(.int 1)] _
    exact retN X310 hx (t := .boolean) Bd.returns (by simp) (hb hby at_290) hr
  · show Q0 n0 _ T310.heap _
    rw [e310]
    exact ⟨rfl, N310⟩
theorem comes_1 {Post : Tables → Env → Array Value → State → Outcome → State → Prop} (hpost : ∀ tb e args s v u, (limb_1_1.after args s (.returned v) u = true ∧ limb_1_2.after args s (.returned v) u = true ∧ True) → ReturnedEndW s (.returned v) u (Jvm.fieldLocs frame_1_writes args s ++ Jvm.arrayLocs frame_1_arrays args s ++ Jvm.staticLocs frame_1_statics s) 24 1152 → Post tb e args s (.returned v) u) :
    ArmFor flags0 classFile x code maxLocals ret World_1 tables_1 room_1 Calls_1 rest_1 Pre_1 Post := by
  intro l hfl _ _ p e ha hc hk s m args below hf hA hF happ hP
  obtain ⟨hcalls, hrest, hpre⟩ := hP
  obtain ⟨-, -, -, hnamed, -, -, -, hat⟩ := (Spec.applies_iff hf).mp happ
  obtain ⟨hg, hn⟩ := and_e (Cond.before_iff.mp (show (Jvm.Cond.and given_1 narrow_1).before args s = true from hpre))
  obtain ⟨g1, g2⟩ := and_e hg
  obtain ⟨g3, g4⟩ := and_e g2
  obtain ⟨g5, g6⟩ := and_e g4
  obtain ⟨g7, g8⟩ := and_e g6
  obtain ⟨w0, w1, w2, w3, rfl⟩ : ∃ w0 w1 w2 w3 : Value, args = #[w0, w1, w2, w3] := by
    have hs : args.size = 4 := by simpa [Cond.value, given_1] using g1
    obtain ⟨L⟩ := args
    match L, hs with
    | [w0, w1, w2, w3], _ => exact ⟨w0, w1, w2, w3, rfl⟩
  have hw := fun d (hd : d ∈ tables_1) => atoms_spec (ws := Jvm.Cond.code x code maxLocals ret :: tables_1) hat d (List.mem_cons_of_mem _ hd)
  have hfit : Fit s := fun {y c} hc i hi => by
    obtain ⟨ha, rfl⟩ := Array.getElem?_eq_some_iff.mp hc
    have q := List.all_eq_true.mp ((Array.all_eq_true_iff_forall_mem.mp hF) _ (Array.getElem_mem ha)) i (List.mem_range.mpr hi)
    simpa [Array.getElem?_eq_getElem hi] using q
  obtain ⟨hsets, hown0⟩ := atoms_of _ (rest_1_c_eq ▸ (show rest_1_c.before _ s = true from hrest))
  have hr0 := Cond.before_iff.mp hown0
  obtain ⟨i0, ei0⟩ := isL_v g3
  obtain rfl : w0 = (.long i0) := Option.some.inj ei0
  obtain ⟨i1, ei1⟩ := isL_v g5
  obtain rfl : w1 = (.long i1) := Option.some.inj ei1
  obtain ⟨i2, ei2⟩ := isL_v g7
  obtain rfl : w2 = (.long i2) := Option.some.inj ei2
  obtain ⟨i3, ei3⟩ := is_v g8
  obtain rfl : w3 = (.int i3) := Option.some.inj ei3
  have nz := not_v (Cond.before_iff.mp (hsets _ (List.mem_of_getElem? (i := 2) rfl)))
  obtain ⟨cz, ecz⟩ := is_v (Cond.before_iff.mp (hsets _ (List.mem_of_getElem? (i := 1) rfl)))
  have SCS := Sta.start ecz (Or.inl (hsets _ (List.mem_of_getElem? (i := 0) rfl)))
  have hCS : ¬ (cz = (0 : Int32)) := gotF (Cond.eq_ints ecz (Term.int_eval (0))) nz
  obtain ⟨fm, efm, hFM⟩ := isR_v (Cond.before_iff.mp (hsets _ (List.mem_of_getElem? (i := 8) rfl)))
  have SFM := Sta.start efm (Or.inl (hsets _ (List.mem_of_getElem? (i := 7) rfl)))
  have SAD := Sta.start (own_eqInt (Cond.before_iff.mp (hsets _ (List.mem_of_getElem? (i := 12) rfl)))) (Or.inl (hsets _ (List.mem_of_getElem? (i := 11) rfl)))
  have SHI := Sta.start (own_eqInt (Cond.before_iff.mp (hsets _ (List.mem_of_getElem? (i := 15) rfl)))) (Or.inl (hsets _ (List.mem_of_getElem? (i := 14) rfl)))
  have SLO := Sta.start (own_eqInt (Cond.before_iff.mp (hsets _ (List.mem_of_getElem? (i := 18) rfl)))) (Or.inl (hsets _ (List.mem_of_getElem? (i := 17) rfl)))
  have hCH0 : CHv s EL s.vm s.heap := CHv.start (own_EW hw) (fun p hp => hcalls.1 p hp) (hsets _ (List.mem_of_getElem? (i := 2) rfl)) (wi hw 7 rfl) (wi hw 6 rfl)
  obtain ⟨n, o, h1, h2, h3, _, L, rfl, ⟨rfl, N⟩, hq⟩ := rm0 l s _ hw tables_1 i0 i1 i2 i3 cz fm s.heap s.heap.size (Nat.le_refl _) SCS SFM SAD SHI SLO hCS hFM p e ha hc hk s m _ below hf ((Spec.applies_iff_loose hf).mp happ).1 ⟨rfl, State.Warmed39.refl s, rfl, hCH0⟩ trivial
  refine ⟨n, _, h1, h2, h3, hpost _ _ _ _ _ _ ⟨Cond.after_iff.mpr rfl, Cond.after_iff.mpr (eq_i res_at (Term.int_eval (1)) rfl), trivial⟩ ⟨hq.1, hq.2.1, hq.2.2.1, (hq.2.2.2.sift fun y hy => Or.inr (N y hy)).mono (by decide) (by decide)⟩⟩
theorem main_1_1 : Claimed_1_1 := comes_1 fun _ _ _ _ _ _ h hF => ⟨h.1, hF⟩
theorem main_1_2 : Claimed_1_2 := comes_1 fun _ _ _ _ _ _ h hF => ⟨h.2.1, hF⟩
end Jvm.Pilot.@@N@@
namespace Jvm.Pilot.@@N@@
open Jvm Jvm.ClassFile Sem Op Lib Jvm.Free Jvm.Stand Jvm.Pilot.@@N@@.Jvm.D
/-! MADE BY PROGRAM (witnessworld.py) out of the Statement's table words and the real class files: 21 classes; the members and pool entries that the words name. The judged class is class 1, her method 4. -/
namespace start1
open Jvm.ClassFile
def u (s : String) : CpInfo := .utf8 (stringToUtf16 s)
/-- a pool by its gaps: so many unusable entries, then the entry; so many at the end -/
def gap : Nat → List CpInfo → List CpInfo
  | 0, r => r
  | n + 1, r => .unusable :: gap n r
def poolList (es : List (Nat × CpInfo)) (last : Nat) : List CpInfo := es.foldr (fun e r => gap e.1 (e.2 :: r)) (gap last [])
def pool (es : List (Nat × CpInfo)) (last : Nat) : Array CpInfo := ⟨poolList es last⟩
def fileOf (pool : Array CpInfo) (this : Nat) (attrs : Array Attribute := #[]) (ms : Array MethodInfo := #[]) (fl : Nat := 33) (sup : Nat := 0) (ifs : Array Nat := #[]) (fds : Array FieldInfo := #[]) : ClassFile where
  minorVersion := 0
  majorVersion := 65
  constantPool := pool
  accessFlags := fl
  thisClass := this
  superClass := sup
  interfaces := ifs
  fields := fds
  methods := ms
  attributes := attrs
def plain (name : String) (sup : Option ClassId) : Class where
  name := name
  kind := .ordinary
  loader := none
  accessFlags := 33
  super := sup
  interfaces := #[]
  cf := none
  fields := #[]
  methods := #[]
  instanceTypes := #[]
  staticTypes := #[]
  resolved := #[]
  callSites := []
  init := .initialized
  statics := none
  mirror := none

def pool0 : Array CpInfo := pool [(5, u "<init>"), (0, u "()V"), (1, .class_ 10), (1, u "java/lang/Object")] 113

def k0c0 : Code := { maxStack := 0, maxLocals := 1, code := object_method_1_code, exceptionTable := #[], attributes := #[] }
def k0m0 : Method := { name := "<init>", desc := "()V", sig := { parameters := [], returnType := none }, accessFlags := 1, code := some k0c0 }
/-- java/lang/Object -/
def k0 : Class := { plain "java/lang/Object" none with
  accessFlags := 33
  interfaces := #[]
  cf := some (fileOf pool0 8 #[] #[{ accessFlags := 1, nameIndex := 5, descriptorIndex := 6, attributes := #[] }] 33 0 #[] #[])
  fields := #[]
  methods := #[k0m0]
  instanceTypes := #[]
  staticTypes := #[]
  resolved := Array.replicate 124 none
  statics := none }

def pool1 : Array CpInfo := pool [(2, .class_ 4), (1, u "java/lang/Object"), (0, u "<init>"), (0, u "()V"), (0, .integer 65535), (0, .methodref 9 10), (0, .class_ 11), (0, .nameAndType 12 13), (0, u "com/example/pourcode/pourcode/input/LineCounterCountPinLaw"), (0, u "stepRef"), (0, u "(ICCCI)I"), (0, .methodref 9 15), (0, .nameAndType 16 17), (0, u "ch"), (0, u "(I)C"), (0, .string 19), (0, u ""), (0, .methodref 21 22), (0, .class_ 23), (0, .nameAndType 24 25), (0, u "java/lang/String"), (0, u "valueOf"), (0, u "(C)Ljava/lang/String;"), (0, .methodref 21 27), (0, .nameAndType 5 28), (0, u "([C)V"), (0, .methodref 9 30), (0, .nameAndType 31 32), (0, u "piece"), (0, u "(I[CIICCI)I"), (0, .class_ 34), (0, u "com/example/pourcode/pourcode/input/LineCounter"), (0, .methodref 33 36), (0, .nameAndType 5 37), (0, u "(Ljava/lang/String;)V"), (0, .methodref 33 39), (0, .nameAndType 40 41), (0, u "count"), (0, u "([CII)V"), (0, .methodref 33 43), (0, .nameAndType 44 45), (0, u "line"), (0, u "()I"), (3, u "law"), (0, u "(JJJI)Z")] 4

def k1m0 : Method := { name := "<init>", desc := "()V", sig := { parameters := [], returnType := none }, accessFlags := 1, code := none }
def k1c1 : Code := { maxStack := 2, maxLocals := 2, code := method_2_code, exceptionTable := #[], attributes := #[] }
def k1m1 : Method := { name := "ch", desc := "(I)C", sig := { parameters := [.int], returnType := some .char }, accessFlags := 10, code := some k1c1 }
def k1c2 : Code := { maxStack := 2, maxLocals := 11, code := method_3_code, exceptionTable := #[], attributes := #[] }
def k1m2 : Method := { name := "stepRef", desc := "(ICCCI)I", sig := { parameters := [.int, .char, .char, .char, .int], returnType := some .int }, accessFlags := 10, code := some k1c2 }
def k1c3 : Code := { maxStack := 5, maxLocals := 8, code := method_4_code, exceptionTable := #[], attributes := #[] }
def k1m3 : Method := { name := "piece", desc := "(I[CIICCI)I", sig := { parameters := [.int, (.array .char), .int, .int, .char, .char, .int], returnType := some .int }, accessFlags := 10, code := some k1c3 }
def k1c4 : Code := { maxStack := 7, maxLocals := 22, code := code, exceptionTable := #[], attributes := #[] }
def k1m4 : Method := { name := "law", desc := "(JJJI)Z", sig := { parameters := [.long, .long, .long, .int], returnType := some .boolean }, accessFlags := 9, code := some k1c4 }
/-- com/example/pourcode/pourcode/input/LineCounterCountPinLaw -/
def k1 : Class := { plain "com/example/pourcode/pourcode/input/LineCounterCountPinLaw" (some 0) with
  accessFlags := 49
  interfaces := #[]
  cf := some (fileOf pool1 9 #[] #[{ accessFlags := 1, nameIndex := 5, descriptorIndex := 6, attributes := #[] }, { accessFlags := 10, nameIndex := 16, descriptorIndex := 17, attributes := #[] }, { accessFlags := 10, nameIndex := 12, descriptorIndex := 13, attributes := #[] }, { accessFlags := 10, nameIndex := 31, descriptorIndex := 32, attributes := #[] }, { accessFlags := 9, nameIndex := 49, descriptorIndex := 50, attributes := #[] }] 49 2 #[] #[])
  fields := #[]
  methods := #[k1m0, k1m1, k1m2, k1m3, k1m4]
  instanceTypes := #[]
  staticTypes := #[]
  resolved := Array.replicate 55 none
  statics := none }

def pool2 : Array CpInfo := pool [(1, .class_ 2), (0, u "java/io/Serializable"), (0, .class_ 4), (0, u "java/lang/Object")] 2

/-- java/io/Serializable -/
def k2 : Class := { plain "java/io/Serializable" (some 0) with
  accessFlags := 1537
  interfaces := #[]
  cf := some (fileOf pool2 1 #[] #[] 1537 3 #[] #[])
  fields := #[]
  methods := #[]
  instanceTypes := #[]
  staticTypes := #[]
  resolved := Array.replicate 7 none
  statics := none }

def pool3 : Array CpInfo := pool [(1, .class_ 2), (0, u "java/lang/Comparable"), (0, .class_ 4), (0, u "java/lang/Object")] 7

/-- java/lang/Comparable -/
def k3 : Class := { plain "java/lang/Comparable" (some 0) with
  accessFlags := 1537
  interfaces := #[]
  cf := some (fileOf pool3 1 #[] #[] 1537 3 #[] #[])
  fields := #[]
  methods := #[]
  instanceTypes := #[]
  staticTypes := #[]
  resolved := Array.replicate 12 none
  statics := none }

def pool4 : Array CpInfo := pool [(2, .class_ 4), (1, u "java/lang/CharSequence"), (42, .class_ 48), (0, u "java/lang/CharSequence$1CodePointIterator"), (10, .class_ 60), (0, u "java/lang/CharSequence$1CharIterator"), (5, .class_ 67), (0, u "java/lang/Object")] 63

/-- java/lang/CharSequence -/
def k4 : Class := { plain "java/lang/CharSequence" (some 0) with
  accessFlags := 1537
  interfaces := #[]
  cf := some (fileOf pool4 2 #[.nestMembers #[47, 59]] #[] 1537 66 #[] #[])
  fields := #[]
  methods := #[]
  instanceTypes := #[]
  staticTypes := #[]
  resolved := Array.replicate 131 none
  statics := none }

def pool5 : Array CpInfo := pool [(1, .class_ 2), (0, u "java/lang/constant/Constable"), (0, .class_ 4), (0, u "java/lang/Object")] 6

/-- java/lang/constant/Constable -/
def k5 : Class := { plain "java/lang/constant/Constable" (some 0) with
  accessFlags := 1537
  interfaces := #[]
  cf := some (fileOf pool5 1 #[] #[] 1537 3 #[] #[])
  fields := #[]
  methods := #[]
  instanceTypes := #[]
  staticTypes := #[]
  resolved := Array.replicate 11 none
  statics := none }

def pool6 : Array CpInfo := pool [(1, .class_ 2), (0, u "java/lang/constant/ConstantDesc"), (0, .class_ 4), (0, u "java/lang/Object")] 32

/-- java/lang/constant/ConstantDesc -/
def k6 : Class := { plain "java/lang/constant/ConstantDesc" (some 0) with
  accessFlags := 1537
  interfaces := #[]
  cf := some (fileOf pool6 1 #[] #[] 1537 3 #[] #[])
  fields := #[]
  methods := #[]
  instanceTypes := #[]
  staticTypes := #[]
  resolved := Array.replicate 37 none
  statics := none }

def pool7 : Array CpInfo := pool [(1, .methodref 2 3), (0, .class_ 4), (0, .nameAndType 5 6), (0, u "java/lang/Object"), (0, u "<init>"), (0, u "()V"), (2, .fieldref 10 11), (0, .class_ 12), (0, .nameAndType 13 14), (0, u "java/lang/String"), (0, u "value"), (0, u "[B"), (0, .fieldref 10 16), (0, .nameAndType 17 18), (0, u "coder"), (0, u "B"), (2, u "hash"), (0, u "I"), (2, u "hashIsZero"), (0, u "Z"), (0, .methodref 10 28), (0, .nameAndType 5 29), (0, u "([CIILjava/lang/Void;)V"), (8, .fieldref 10 39), (0, .nameAndType 40 26), (0, u "COMPACT_STRINGS"), (1, .class_ 44), (1, u "java/lang/StringUTF16"), (0, u "compress"), (1, .methodref 42 48), (0, .nameAndType 49 50), (0, u "coderFromArrayLen"), (0, u "([BI)B"), (2, u "toBytes"), (53, .class_ 109), (1, u "java/lang/StringLatin1"), (32, u "()Z"), (34, .methodref 42 178), (0, .nameAndType 45 179), (0, u "([CII)[B"), (29, .methodref 10 210), (0, .nameAndType 5 211), (0, u "([BB)V"), (122, u "()I"), (0, .methodref 10 336), (0, .nameAndType 17 337), (0, u "()B"), (25, u "([BI)C"), (5, u "(C)Z"), (21, u "(II)V"), (35, u "(I)C"), (64, .methodref 10 493), (0, .nameAndType 494 142), (0, u "isLatin1"), (0, .methodref 107 496), (0, .nameAndType 497 363), (0, u "charAt"), (0, .methodref 42 496), (2, u "checkIndex"), (3, .methodref 10 506), (0, .nameAndType 507 334), (0, u "length"), (5, u "checkFromToIndex"), (9, u "checkBoundsBeginEnd"), (0, u "(III)V"), (50, .class_ 576), (0, u "java/lang/CharSequence"), (22, u "CASE_INSENSITIVE_ORDER"), (0, u "Ljava/util/Comparator;"), (32, .methodref 10 634), (0, .nameAndType 635 636), (0, u "indexOf"), (0, u "(II)I"), (0, .methodref 107 638), (0, .nameAndType 635 639), (0, u "([BIII)I"), (0, .methodref 42 638), (124, u "(I)I"), (16, u "valueOf"), (0, u "(C)Ljava/lang/String;"), (226, u "([C)V"), (4, .methodref 107 1016), (0, .nameAndType 1017 369), (0, u "canEncode"), (0, .methodref 107 1019), (0, .nameAndType 53 1020), (0, u "(C)[B"), (0, .methodref 42 1019), (31, .fieldref 1054 1055), (0, .class_ 1056), (0, .nameAndType 1057 1058), (0, u "jdk/internal/util/Preconditions"), (0, u "SIOOBE_FORMATTER"), (0, u "Ljava/util/function/BiFunction;"), (0, .methodref 1054 1060), (0, .nameAndType 501 1061), (0, u "(IILjava/util/function/BiFunction;)I"), (0, .methodref 1054 1063), (0, .nameAndType 513 1064), (0, u "(IIILjava/util/function/BiFunction;)I"), (36, u "serialPersistentFields"), (0, u "[Ljava/io/ObjectStreamField;"), (0, .class_ 1104), (0, u "java/lang/String$CaseInsensitiveComparator"), (1, .class_ 1107), (0, u "java/io/Serializable"), (0, .class_ 1109), (0, u "java/lang/Comparable"), (0, .class_ 1111), (0, u "java/lang/constant/Constable"), (0, .class_ 1113), (0, u "java/lang/constant/ConstantDesc"), (2, u "serialVersionUID"), (0, u "J"), (3, u "REPL"), (0, u "C"), (2, u "LATIN1"), (1, u "UTF16")] 323

def k7m0 : Method := { name := "<init>", desc := "()V", sig := { parameters := [], returnType := none }, accessFlags := 1, code := none }
def k7c1 : Code := { maxStack := 5, maxLocals := 2, code := jdk_42_method_3_code, exceptionTable := #[], attributes := #[] }
def k7m1 : Method := { name := "<init>", desc := "([C)V", sig := { parameters := [(.array .char)], returnType := none }, accessFlags := 1, code := some k7c1 }
def k7c2 : Code := { maxStack := 2, maxLocals := 1, code := jdk_42_method_54_code, exceptionTable := #[], attributes := #[] }
def k7m2 : Method := { name := "length", desc := "()I", sig := { parameters := [], returnType := some .int }, accessFlags := 1, code := some k7c2 }
def k7c3 : Code := { maxStack := 2, maxLocals := 2, code := jdk_42_method_56_code, exceptionTable := #[], attributes := #[] }
def k7m3 : Method := { name := "charAt", desc := "(I)C", sig := { parameters := [.int], returnType := some .char }, accessFlags := 1, code := some k7c3 }
def k7c4 : Code := { maxStack := 3, maxLocals := 2, code := jdk_42_method_79_code, exceptionTable := #[], attributes := #[] }
def k7m4 : Method := { name := "indexOf", desc := "(I)I", sig := { parameters := [.int], returnType := some .int }, accessFlags := 1, code := some k7c4 }
def k7c5 : Code := { maxStack := 4, maxLocals := 3, code := jdk_42_method_80_code, exceptionTable := #[], attributes := #[] }
def k7m5 : Method := { name := "indexOf", desc := "(II)I", sig := { parameters := [.int, .int], returnType := some .int }, accessFlags := 1, code := some k7c5 }
def k7c6 : Code := { maxStack := 4, maxLocals := 1, code := jdk_42_method_139_code, exceptionTable := #[], attributes := #[] }
def k7m6 : Method := { name := "valueOf", desc := "(C)Ljava/lang/String;", sig := { parameters := [.char], returnType := some (.object "java/lang/String") }, accessFlags := 9, code := some k7c6 }
def k7c7 : Code := { maxStack := 4, maxLocals := 6, code := jdk_42_method_149_code, exceptionTable := #[], attributes := #[] }
def k7m7 : Method := { name := "<init>", desc := "([CIILjava/lang/Void;)V", sig := { parameters := [(.array .char), .int, .int, (.object "java/lang/Void")], returnType := none }, accessFlags := 2, code := some k7c7 }
def k7c8 : Code := { maxStack := 2, maxLocals := 3, code := jdk_42_method_151_code, exceptionTable := #[], attributes := #[] }
def k7m8 : Method := { name := "<init>", desc := "([BB)V", sig := { parameters := [(.array .byte), .byte], returnType := none }, accessFlags := 0, code := some k7c8 }
def k7c9 : Code := { maxStack := 1, maxLocals := 1, code := jdk_42_method_152_code, exceptionTable := #[], attributes := #[] }
def k7m9 : Method := { name := "coder", desc := "()B", sig := { parameters := [], returnType := some .byte }, accessFlags := 0, code := some k7c9 }
def k7c10 : Code := { maxStack := 1, maxLocals := 1, code := jdk_42_method_154_code, exceptionTable := #[], attributes := #[] }
def k7m10 : Method := { name := "isLatin1", desc := "()Z", sig := { parameters := [], returnType := some .boolean }, accessFlags := 0, code := some k7c10 }
def k7c11 : Code := { maxStack := 3, maxLocals := 2, code := jdk_42_method_155_code, exceptionTable := #[], attributes := #[] }
def k7m11 : Method := { name := "checkIndex", desc := "(II)V", sig := { parameters := [.int, .int], returnType := none }, accessFlags := 8, code := some k7c11 }
def k7c12 : Code := { maxStack := 4, maxLocals := 3, code := jdk_42_method_158_code, exceptionTable := #[], attributes := #[] }
def k7m12 : Method := { name := "checkBoundsBeginEnd", desc := "(III)V", sig := { parameters := [.int, .int, .int], returnType := none }, accessFlags := 8, code := some k7c12 }
/-- java/lang/String -/
def k7 : Class := { plain "java/lang/String" (some 0) with
  accessFlags := 49
  interfaces := #[2, 3, 4, 5, 6]
  cf := some (fileOf pool7 10 #[.nestMembers #[1103]] #[{ accessFlags := 1, nameIndex := 5, descriptorIndex := 6, attributes := #[] }, { accessFlags := 1, nameIndex := 5, descriptorIndex := 1010, attributes := #[] }, { accessFlags := 1, nameIndex := 507, descriptorIndex := 334, attributes := #[] }, { accessFlags := 1, nameIndex := 497, descriptorIndex := 427, attributes := #[] }, { accessFlags := 1, nameIndex := 635, descriptorIndex := 765, attributes := #[] }, { accessFlags := 1, nameIndex := 635, descriptorIndex := 636, attributes := #[] }, { accessFlags := 9, nameIndex := 782, descriptorIndex := 783, attributes := #[] }, { accessFlags := 2, nameIndex := 5, descriptorIndex := 29, attributes := #[] }, { accessFlags := 0, nameIndex := 5, descriptorIndex := 211, attributes := #[] }, { accessFlags := 0, nameIndex := 17, descriptorIndex := 337, attributes := #[] }, { accessFlags := 0, nameIndex := 494, descriptorIndex := 142, attributes := #[] }, { accessFlags := 8, nameIndex := 501, descriptorIndex := 391, attributes := #[] }, { accessFlags := 8, nameIndex := 523, descriptorIndex := 524, attributes := #[] }] 49 2 #[1106, 1108, 575, 1110, 1112] #[{ accessFlags := 18, nameIndex := 13, descriptorIndex := 14, attributes := #[] }, { accessFlags := 18, nameIndex := 17, descriptorIndex := 18, attributes := #[] }, { accessFlags := 2, nameIndex := 21, descriptorIndex := 22, attributes := #[] }, { accessFlags := 2, nameIndex := 25, descriptorIndex := 26, attributes := #[] }, { accessFlags := 26, nameIndex := 1116, descriptorIndex := 1117, attributes := #[] }, { accessFlags := 24, nameIndex := 40, descriptorIndex := 26, attributes := #[] }, { accessFlags := 26, nameIndex := 1101, descriptorIndex := 1102, attributes := #[] }, { accessFlags := 26, nameIndex := 1121, descriptorIndex := 1122, attributes := #[] }, { accessFlags := 25, nameIndex := 599, descriptorIndex := 600, attributes := #[] }, { accessFlags := 24, nameIndex := 1125, descriptorIndex := 18, attributes := #[] }, { accessFlags := 24, nameIndex := 1127, descriptorIndex := 18, attributes := #[] }])
  fields := #[{ name := "value", type := (.array .byte), accessFlags := 18, slot := 0, constantValue := 0 }, { name := "coder", type := .byte, accessFlags := 18, slot := 1, constantValue := 0 }, { name := "hash", type := .int, accessFlags := 2, slot := 2, constantValue := 0 }, { name := "hashIsZero", type := .boolean, accessFlags := 2, slot := 3, constantValue := 0 }, { name := "serialVersionUID", type := .long, accessFlags := 26, slot := 0, constantValue := 0 }, { name := "COMPACT_STRINGS", type := .boolean, accessFlags := 24, slot := 1, constantValue := 0 }, { name := "serialPersistentFields", type := (.array (.object "java/io/ObjectStreamField")), accessFlags := 26, slot := 2, constantValue := 0 }, { name := "REPL", type := .char, accessFlags := 26, slot := 3, constantValue := 0 }, { name := "CASE_INSENSITIVE_ORDER", type := (.object "java/util/Comparator"), accessFlags := 25, slot := 4, constantValue := 0 }, { name := "LATIN1", type := .byte, accessFlags := 24, slot := 5, constantValue := 0 }, { name := "UTF16", type := .byte, accessFlags := 24, slot := 6, constantValue := 0 }]
  methods := #[k7m0, k7m1, k7m2, k7m3, k7m4, k7m5, k7m6, k7m7, k7m8, k7m9, k7m10, k7m11, k7m12]
  instanceTypes := #[(.array .byte), .byte, .int, .boolean]
  staticTypes := #[.long, .boolean, (.array (.object "java/io/ObjectStreamField")), .char, (.object "java/util/Comparator"), .byte, .byte]
  resolved := Array.replicate 1451 none
  statics := some 0 }

def pool8 : Array CpInfo := pool [(1, .methodref 2 3), (0, .class_ 4), (0, .nameAndType 5 6), (0, u "java/lang/Object"), (0, u "<init>"), (0, u "()V"), (0, .fieldref 8 9), (0, .class_ 10), (0, .nameAndType 11 12), (0, u "com/example/pourcode/pourcode/input/LineCounter"), (0, u "line"), (0, u "I"), (0, .fieldref 8 14), (0, .nameAndType 15 16), (0, u "breaks"), (0, u "Ljava/lang/String;"), (0, .methodref 18 19), (0, .class_ 20), (0, .nameAndType 21 22), (0, u "java/lang/String"), (0, u "length"), (0, u "()I"), (0, .methodref 18 24), (0, .nameAndType 25 26), (0, u "charAt"), (0, u "(I)C"), (0, .methodref 28 29), (0, .class_ 30), (0, .nameAndType 31 32), (0, u "java/lang/Math"), (0, u "max"), (0, u "(II)I"), (0, .fieldref 8 34), (0, .nameAndType 35 36), (0, u "highest"), (0, u "C"), (2, u "(Ljava/lang/String;)V"), (2, u "count"), (7, .methodref 8 51), (0, .nameAndType 52 53), (0, u "step"), (0, u "(C)V"), (0, .methodref 18 55), (0, .nameAndType 56 57), (0, u "indexOf"), (0, u "(I)I"), (0, .fieldref 8 59), (0, .nameAndType 60 61), (0, u "afterReturn"), (0, u "Z"), (5, u "([CII)V")] 2

def k8c0 : Code := { maxStack := 3, maxLocals := 4, code := prog_59_method_1_code, exceptionTable := #[], attributes := #[] }
def k8m0 : Method := { name := "<init>", desc := "(Ljava/lang/String;)V", sig := { parameters := [(.object "java/lang/String")], returnType := none }, accessFlags := 1, code := some k8c0 }
def k8c1 : Code := { maxStack := 3, maxLocals := 5, code := prog_59_method_4_code, exceptionTable := #[], attributes := #[] }
def k8m1 : Method := { name := "count", desc := "([CII)V", sig := { parameters := [(.array .char), .int, .int], returnType := none }, accessFlags := 1, code := some k8c1 }
def k8c2 : Code := { maxStack := 1, maxLocals := 1, code := prog_59_method_5_code, exceptionTable := #[], attributes := #[] }
def k8m2 : Method := { name := "line", desc := "()I", sig := { parameters := [], returnType := some .int }, accessFlags := 1, code := some k8c2 }
def k8c3 : Code := { maxStack := 3, maxLocals := 3, code := prog_59_method_6_code, exceptionTable := #[], attributes := #[] }
def k8m3 : Method := { name := "step", desc := "(C)V", sig := { parameters := [.char], returnType := none }, accessFlags := 2, code := some k8c3 }
/-- com/example/pourcode/pourcode/input/LineCounter -/
def k8 : Class := { plain "com/example/pourcode/pourcode/input/LineCounter" (some 0) with
  accessFlags := 49
  interfaces := #[]
  cf := some (fileOf pool8 8 #[] #[{ accessFlags := 1, nameIndex := 5, descriptorIndex := 39, attributes := #[] }, { accessFlags := 1, nameIndex := 42, descriptorIndex := 67, attributes := #[] }, { accessFlags := 1, nameIndex := 11, descriptorIndex := 22, attributes := #[] }, { accessFlags := 2, nameIndex := 52, descriptorIndex := 53, attributes := #[] }] 49 2 #[] #[{ accessFlags := 18, nameIndex := 15, descriptorIndex := 16, attributes := #[] }, { accessFlags := 18, nameIndex := 35, descriptorIndex := 36, attributes := #[] }, { accessFlags := 2, nameIndex := 11, descriptorIndex := 12, attributes := #[] }, { accessFlags := 2, nameIndex := 60, descriptorIndex := 61, attributes := #[] }])
  fields := #[{ name := "breaks", type := (.object "java/lang/String"), accessFlags := 18, slot := 0, constantValue := 0 }, { name := "highest", type := .char, accessFlags := 18, slot := 1, constantValue := 0 }, { name := "line", type := .int, accessFlags := 2, slot := 2, constantValue := 0 }, { name := "afterReturn", type := .boolean, accessFlags := 2, slot := 3, constantValue := 0 }]
  methods := #[k8m0, k8m1, k8m2, k8m3]
  instanceTypes := #[(.object "java/lang/String"), .char, .int, .boolean]
  staticTypes := #[]
  resolved := Array.replicate 70 none
  statics := none }

def pool9 : Array CpInfo := pool [(1, .class_ 2), (0, u "java/lang/String"), (1, .class_ 6), (1, u "java/lang/Object"), (0, u "<init>"), (0, u "()V"), (0, .methodref 1 10), (0, .nameAndType 11 12), (0, u "checkIndex"), (0, u "(II)V"), (1, .class_ 16), (1, u "java/lang/StringLatin1"), (21, .methodref 39 40), (0, .class_ 41), (0, .nameAndType 42 43), (0, u "java/lang/Math"), (0, u "min"), (0, u "(II)I"), (9, u "([BI)C"), (34, .methodref 14 89), (0, .nameAndType 90 91), (0, u "canEncode"), (0, u "(I)Z"), (0, .methodref 39 93), (0, .nameAndType 94 43), (0, u "max"), (0, .methodref 14 96), (0, .nameAndType 97 98), (0, u "indexOfChar"), (0, u "([BIII)I"), (2, u "indexOf"), (3, u "(C)Z"), (15, u "$assertionsDisabled"), (0, u "Z"), (98, .class_ 223), (1, u "java/lang/StringLatin1$LinesSpliterator"), (28, u "charAt"), (127, u "toBytes"), (1, u "(C)[B"), (7, .class_ 391), (0, u "java/lang/StringLatin1$CharsSpliterator")] 3

def k9m0 : Method := { name := "<init>", desc := "()V", sig := { parameters := [], returnType := none }, accessFlags := 0, code := none }
def k9c1 : Code := { maxStack := 2, maxLocals := 2, code := jdk_43_method_2_code, exceptionTable := #[], attributes := #[] }
def k9m1 : Method := { name := "charAt", desc := "([BI)C", sig := { parameters := [(.array .byte), .int], returnType := some .char }, accessFlags := 9, code := some k9c1 }
def k9c2 : Code := { maxStack := 2, maxLocals := 1, code := jdk_43_method_3_code, exceptionTable := #[], attributes := #[] }
def k9m2 : Method := { name := "canEncode", desc := "(C)Z", sig := { parameters := [.char], returnType := some .boolean }, accessFlags := 9, code := some k9c2 }
def k9c3 : Code := { maxStack := 2, maxLocals := 1, code := jdk_43_method_4_code, exceptionTable := #[], attributes := #[] }
def k9m3 : Method := { name := "canEncode", desc := "(I)Z", sig := { parameters := [.int], returnType := some .boolean }, accessFlags := 9, code := some k9c3 }
def k9c4 : Code := { maxStack := 4, maxLocals := 4, code := jdk_43_method_22_code, exceptionTable := #[], attributes := #[] }
def k9m4 : Method := { name := "indexOf", desc := "([BIII)I", sig := { parameters := [(.array .byte), .int, .int, .int], returnType := some .int }, accessFlags := 9, code := some k9c4 }
def k9c5 : Code := { maxStack := 2, maxLocals := 6, code := jdk_43_method_23_code, exceptionTable := #[], attributes := #[] }
def k9m5 : Method := { name := "indexOfChar", desc := "([BIII)I", sig := { parameters := [(.array .byte), .int, .int, .int], returnType := some .int }, accessFlags := 10, code := some k9c5 }
def k9c6 : Code := { maxStack := 4, maxLocals := 1, code := jdk_43_method_46_code, exceptionTable := #[], attributes := #[] }
def k9m6 : Method := { name := "toBytes", desc := "(C)[B", sig := { parameters := [.char], returnType := some (.array .byte) }, accessFlags := 9, code := some k9c6 }
/-- java/lang/StringLatin1 -/
def k9 : Class := { plain "java/lang/StringLatin1" (some 0) with
  accessFlags := 48
  interfaces := #[]
  cf := some (fileOf pool9 14 #[.nestMembers #[390, 221]] #[{ accessFlags := 0, nameIndex := 7, descriptorIndex := 8, attributes := #[] }, { accessFlags := 9, nameIndex := 252, descriptorIndex := 53, attributes := #[] }, { accessFlags := 9, nameIndex := 90, descriptorIndex := 105, attributes := #[] }, { accessFlags := 9, nameIndex := 90, descriptorIndex := 91, attributes := #[] }, { accessFlags := 9, nameIndex := 101, descriptorIndex := 98, attributes := #[] }, { accessFlags := 10, nameIndex := 97, descriptorIndex := 98, attributes := #[] }, { accessFlags := 9, nameIndex := 380, descriptorIndex := 382, attributes := #[] }] 48 4 #[] #[{ accessFlags := 4120, nameIndex := 121, descriptorIndex := 122, attributes := #[] }])
  fields := #[{ name := "$assertionsDisabled", type := .boolean, accessFlags := 4120, slot := 0, constantValue := 0 }]
  methods := #[k9m0, k9m1, k9m2, k9m3, k9m4, k9m5, k9m6]
  instanceTypes := #[]
  staticTypes := #[.boolean]
  resolved := Array.replicate 395 none
  statics := none }

def pool10 : Array CpInfo := pool [(2, .class_ 4), (1, u "java/lang/Object"), (0, u "<init>"), (0, u "()V"), (17, .class_ 26), (1, u "jdk/internal/util/Preconditions"), (6, u "checkIndex"), (13, u "checkFromToIndex"), (7, .class_ 56), (0, u "jdk/internal/util/Preconditions$4"), (57, .class_ 115), (0, u "jdk/internal/util/Preconditions$1"), (7, u "SIOOBE_FORMATTER"), (0, u "Ljava/util/function/BiFunction;"), (0, .class_ 126), (0, u "jdk/internal/util/Preconditions$2"), (3, u "AIOOBE_FORMATTER"), (0, .class_ 132), (0, u "jdk/internal/util/Preconditions$3"), (3, u "IOOBE_FORMATTER"), (41, u "(IILjava/util/function/BiFunction;)I"), (4, u "(IIILjava/util/function/BiFunction;)I")] 10

def k10m0 : Method := { name := "<init>", desc := "()V", sig := { parameters := [], returnType := none }, accessFlags := 1, code := none }
def k10c1 : Code := { maxStack := 3, maxLocals := 3, code := jdk_41_method_11_code, exceptionTable := #[], attributes := #[] }
def k10m1 : Method := { name := "checkIndex", desc := "(IILjava/util/function/BiFunction;)I", sig := { parameters := [.int, .int, (.object "java/util/function/BiFunction")], returnType := some .int }, accessFlags := 9, code := some k10c1 }
def k10c2 : Code := { maxStack := 4, maxLocals := 4, code := jdk_41_method_12_code, exceptionTable := #[], attributes := #[] }
def k10m2 : Method := { name := "checkFromToIndex", desc := "(IIILjava/util/function/BiFunction;)I", sig := { parameters := [.int, .int, .int, (.object "java/util/function/BiFunction")], returnType := some .int }, accessFlags := 9, code := some k10c2 }
/-- jdk/internal/util/Preconditions -/
def k10 : Class := { plain "jdk/internal/util/Preconditions" (some 0) with
  accessFlags := 33
  interfaces := #[]
  cf := some (fileOf pool10 24 #[.nestMembers #[55, 131, 125, 114]] #[{ accessFlags := 1, nameIndex := 5, descriptorIndex := 6, attributes := #[] }, { accessFlags := 9, nameIndex := 33, descriptorIndex := 178, attributes := #[] }, { accessFlags := 9, nameIndex := 47, descriptorIndex := 183, attributes := #[] }] 33 2 #[] #[{ accessFlags := 25, nameIndex := 123, descriptorIndex := 124, attributes := #[] }, { accessFlags := 25, nameIndex := 130, descriptorIndex := 124, attributes := #[] }, { accessFlags := 25, nameIndex := 136, descriptorIndex := 124, attributes := #[] }])
  fields := #[{ name := "SIOOBE_FORMATTER", type := (.object "java/util/function/BiFunction"), accessFlags := 25, slot := 0, constantValue := 0 }, { name := "AIOOBE_FORMATTER", type := (.object "java/util/function/BiFunction"), accessFlags := 25, slot := 1, constantValue := 0 }, { name := "IOOBE_FORMATTER", type := (.object "java/util/function/BiFunction"), accessFlags := 25, slot := 2, constantValue := 0 }]
  methods := #[k10m0, k10m1, k10m2]
  instanceTypes := #[]
  staticTypes := #[(.object "java/util/function/BiFunction"), (.object "java/util/function/BiFunction"), (.object "java/util/function/BiFunction")]
  resolved := Array.replicate 194 none
  statics := some 1 }

def pool11 : Array CpInfo := pool [(1, .class_ 2), (0, u "java/lang/Math"), (1, .class_ 6), (1, u "java/lang/Object"), (0, u "<init>"), (0, u "()V"), (89, .class_ 100), (1, u "java/lang/Math$RandomNumberGeneratorHolder"), (71, u "negativeZeroFloatBits"), (0, u "J"), (2, u "negativeZeroDoubleBits"), (21, u "max"), (2, u "min"), (43, u "$assertionsDisabled"), (0, u "Z"), (88, u "(II)I"), (2, u "twoToTheDoubleScaleDown"), (0, u "D"), (4, u "twoToTheDoubleScaleUp"), (9, u "E"), (3, u "PI"), (2, u "TAU"), (2, u "DEGREES_TO_RADIANS"), (0, u "RADIANS_TO_DEGREES")] 94

def k11m0 : Method := { name := "<init>", desc := "()V", sig := { parameters := [], returnType := none }, accessFlags := 2, code := none }
def k11c1 : Code := { maxStack := 2, maxLocals := 2, code := jdk_29_method_65_code, exceptionTable := #[], attributes := #[] }
def k11m1 : Method := { name := "max", desc := "(II)I", sig := { parameters := [.int, .int], returnType := some .int }, accessFlags := 9, code := some k11c1 }
def k11c2 : Code := { maxStack := 2, maxLocals := 2, code := jdk_29_method_69_code, exceptionTable := #[], attributes := #[] }
def k11m2 : Method := { name := "min", desc := "(II)I", sig := { parameters := [.int, .int], returnType := some .int }, accessFlags := 9, code := some k11c2 }
/-- java/lang/Math -/
def k11 : Class := { plain "java/lang/Math" (some 0) with
  accessFlags := 49
  interfaces := #[]
  cf := some (fileOf pool11 1 #[.nestMembers #[98]] #[{ accessFlags := 2, nameIndex := 7, descriptorIndex := 8, attributes := #[] }, { accessFlags := 9, nameIndex := 198, descriptorIndex := 335, attributes := #[] }, { accessFlags := 9, nameIndex := 201, descriptorIndex := 335, attributes := #[] }] 49 4 #[] #[{ accessFlags := 25, nameIndex := 354, descriptorIndex := 339, attributes := #[] }, { accessFlags := 25, nameIndex := 358, descriptorIndex := 339, attributes := #[] }, { accessFlags := 25, nameIndex := 361, descriptorIndex := 339, attributes := #[] }, { accessFlags := 26, nameIndex := 364, descriptorIndex := 339, attributes := #[] }, { accessFlags := 26, nameIndex := 365, descriptorIndex := 339, attributes := #[] }, { accessFlags := 26, nameIndex := 172, descriptorIndex := 173, attributes := #[] }, { accessFlags := 26, nameIndex := 176, descriptorIndex := 173, attributes := #[] }, { accessFlags := 8, nameIndex := 344, descriptorIndex := 339, attributes := #[] }, { accessFlags := 8, nameIndex := 338, descriptorIndex := 339, attributes := #[] }, { accessFlags := 4120, nameIndex := 245, descriptorIndex := 246, attributes := #[] }])
  fields := #[{ name := "E", type := .double, accessFlags := 25, slot := 0, constantValue := 0 }, { name := "PI", type := .double, accessFlags := 25, slot := 1, constantValue := 0 }, { name := "TAU", type := .double, accessFlags := 25, slot := 2, constantValue := 0 }, { name := "DEGREES_TO_RADIANS", type := .double, accessFlags := 26, slot := 3, constantValue := 0 }, { name := "RADIANS_TO_DEGREES", type := .double, accessFlags := 26, slot := 4, constantValue := 0 }, { name := "negativeZeroFloatBits", type := .long, accessFlags := 26, slot := 5, constantValue := 0 }, { name := "negativeZeroDoubleBits", type := .long, accessFlags := 26, slot := 6, constantValue := 0 }, { name := "twoToTheDoubleScaleUp", type := .double, accessFlags := 8, slot := 7, constantValue := 0 }, { name := "twoToTheDoubleScaleDown", type := .double, accessFlags := 8, slot := 8, constantValue := 0 }, { name := "$assertionsDisabled", type := .boolean, accessFlags := 4120, slot := 9, constantValue := 0 }]
  methods := #[k11m0, k11m1, k11m2]
  instanceTypes := #[]
  staticTypes := #[.double, .double, .double, .double, .double, .long, .long, .double, .double, .boolean]
  resolved := Array.replicate 460 none
  statics := none }

def pool12 : Array CpInfo := pool [(3, .class_ 4), (0, u "java/lang/String"), (1, .class_ 8), (1, u "java/lang/Object"), (0, u "<init>"), (0, u "()V"), (0, .methodref 12 13), (0, .class_ 14), (0, .nameAndType 15 16), (0, u "java/lang/StringUTF16"), (0, u "newBytesLength"), (0, u "(I)I"), (3, .integer 1073741823), (23, .fieldref 12 45), (0, .nameAndType 46 47), (0, u "$assertionsDisabled"), (0, u "Z"), (0, .methodref 12 49), (0, .nameAndType 50 51), (0, u "length"), (0, u "([B)I"), (7, .fieldref 12 60), (0, .nameAndType 61 62), (0, u "HI_BYTE_SHIFT"), (0, u "I"), (0, .fieldref 12 64), (0, .nameAndType 65 62), (0, u "LO_BYTE_SHIFT"), (1, .methodref 12 68), (0, .nameAndType 69 70), (0, u "checkIndex"), (0, u "(I[B)V"), (0, .methodref 12 72), (0, .nameAndType 73 74), (0, u "getChar"), (0, u "([BI)C"), (21, .methodref 12 97), (0, .nameAndType 98 99), (0, u "checkBoundsBeginEnd"), (0, u "(II[B)V"), (7, .methodref 12 108), (0, .nameAndType 109 110), (0, u "newBytesFor"), (0, u "(I)[B"), (0, .methodref 12 112), (0, .nameAndType 113 114), (0, u "putChar"), (0, u "([BII)V"), (0, .methodref 12 116), (0, .nameAndType 117 118), (0, u "compress"), (0, u "([CI[BII)I"), (0, .methodref 12 120), (0, .nameAndType 121 122), (0, u "toBytes"), (0, u "([CII)[B"), (60, .methodref 184 185), (0, .class_ 186), (0, .nameAndType 187 188), (0, u "java/lang/Math"), (0, u "min"), (0, u "(II)I"), (35, .methodref 184 225), (0, .nameAndType 226 188), (0, u "max"), (0, .integer 65536), (0, .methodref 12 229), (0, .nameAndType 230 231), (0, u "indexOfChar"), (0, u "([BIII)I"), (9, .methodref 3 242), (0, .nameAndType 98 243), (0, u "(III)V"), (0, .methodref 12 245), (0, .nameAndType 246 231), (0, u "indexOfCharUnsafe"), (14, u "coderFromArrayLen"), (0, u "([BI)B"), (5, u "indexOf"), (100, .class_ 371), (1, u "java/lang/StringUTF16$LinesSpliterator"), (20, u "charAt"), (21, .methodref 3 415), (0, .nameAndType 69 416), (0, u "(II)V"), (13, u "MAX_LENGTH"), (44, u "(C)[B"), (151, .class_ 628), (0, u "java/lang/StringUTF16$CodePointsSpliterator"), (0, .class_ 630), (0, u "java/lang/StringUTF16$CharsSpliterator")] 4

def k12m0 : Method := { name := "<init>", desc := "()V", sig := { parameters := [], returnType := none }, accessFlags := 0, code := none }
def k12c1 : Code := { maxStack := 1, maxLocals := 1, code := jdk_52_method_2_code, exceptionTable := #[], attributes := #[] }
def k12m1 : Method := { name := "newBytesFor", desc := "(I)[B", sig := { parameters := [.int], returnType := some (.array .byte) }, accessFlags := 9, code := some k12c1 }
def k12c2 : Code := { maxStack := 4, maxLocals := 1, code := jdk_52_method_3_code, exceptionTable := #[], attributes := #[] }
def k12m2 : Method := { name := "newBytesLength", desc := "(I)I", sig := { parameters := [.int], returnType := some .int }, accessFlags := 9, code := some k12c2 }
def k12c3 : Code := { maxStack := 4, maxLocals := 3, code := jdk_52_method_4_code, exceptionTable := #[], attributes := #[] }
def k12m3 : Method := { name := "putChar", desc := "([BII)V", sig := { parameters := [(.array .byte), .int, .int], returnType := none }, accessFlags := 8, code := some k12c3 }
def k12c4 : Code := { maxStack := 3, maxLocals := 2, code := jdk_52_method_5_code, exceptionTable := #[], attributes := #[] }
def k12m4 : Method := { name := "getChar", desc := "([BI)C", sig := { parameters := [(.array .byte), .int], returnType := some .char }, accessFlags := 8, code := some k12c4 }
def k12c5 : Code := { maxStack := 2, maxLocals := 1, code := jdk_52_method_6_code, exceptionTable := #[], attributes := #[] }
def k12m5 : Method := { name := "length", desc := "([B)I", sig := { parameters := [(.array .byte)], returnType := some .int }, accessFlags := 9, code := some k12c5 }
def k12c6 : Code := { maxStack := 4, maxLocals := 5, code := jdk_52_method_14_code, exceptionTable := #[], attributes := #[] }
def k12m6 : Method := { name := "toBytes", desc := "([CII)[B", sig := { parameters := [(.array .char), .int, .int], returnType := some (.array .byte) }, accessFlags := 9, code := some k12c6 }
def k12c7 : Code := { maxStack := 2, maxLocals := 2, code := jdk_52_method_15_code, exceptionTable := #[], attributes := #[] }
def k12m7 : Method := { name := "coderFromArrayLen", desc := "([BI)B", sig := { parameters := [(.array .byte), .int], returnType := some .byte }, accessFlags := 8, code := some k12c7 }
def k12c8 : Code := { maxStack := 5, maxLocals := 6, code := jdk_52_method_16_code, exceptionTable := #[], attributes := #[] }
def k12m8 : Method := { name := "compress", desc := "([CII)[B", sig := { parameters := [(.array .char), .int, .int], returnType := some (.array .byte) }, accessFlags := 9, code := some k12c8 }
def k12c9 : Code := { maxStack := 3, maxLocals := 7, code := jdk_52_method_21_code, exceptionTable := #[], attributes := #[] }
def k12m9 : Method := { name := "compress", desc := "([CI[BII)I", sig := { parameters := [(.array .char), .int, (.array .byte), .int, .int], returnType := some .int }, accessFlags := 9, code := some k12c9 }
def k12c10 : Code := { maxStack := 3, maxLocals := 2, code := jdk_52_method_24_code, exceptionTable := #[], attributes := #[] }
def k12m10 : Method := { name := "toBytes", desc := "(C)[B", sig := { parameters := [.char], returnType := some (.array .byte) }, accessFlags := 9, code := some k12c10 }
def k12c11 : Code := { maxStack := 4, maxLocals := 4, code := jdk_52_method_40_code, exceptionTable := #[], attributes := #[] }
def k12m11 : Method := { name := "indexOf", desc := "([BIII)I", sig := { parameters := [(.array .byte), .int, .int, .int], returnType := some .int }, accessFlags := 9, code := some k12c11 }
def k12c12 : Code := { maxStack := 4, maxLocals := 4, code := jdk_52_method_47_code, exceptionTable := #[], attributes := #[] }
def k12m12 : Method := { name := "indexOfChar", desc := "([BIII)I", sig := { parameters := [(.array .byte), .int, .int, .int], returnType := some .int }, accessFlags := 10, code := some k12c12 }
def k12c13 : Code := { maxStack := 2, maxLocals := 5, code := jdk_52_method_48_code, exceptionTable := #[], attributes := #[] }
def k12m13 : Method := { name := "indexOfCharUnsafe", desc := "([BIII)I", sig := { parameters := [(.array .byte), .int, .int, .int], returnType := some .int }, accessFlags := 10, code := some k12c13 }
def k12c14 : Code := { maxStack := 2, maxLocals := 2, code := jdk_52_method_83_code, exceptionTable := #[], attributes := #[] }
def k12m14 : Method := { name := "charAt", desc := "([BI)C", sig := { parameters := [(.array .byte), .int], returnType := some .char }, accessFlags := 9, code := some k12c14 }
def k12c15 : Code := { maxStack := 2, maxLocals := 2, code := jdk_52_method_91_code, exceptionTable := #[], attributes := #[] }
def k12m15 : Method := { name := "checkIndex", desc := "(I[B)V", sig := { parameters := [.int, (.array .byte)], returnType := none }, accessFlags := 9, code := some k12c15 }
def k12c16 : Code := { maxStack := 3, maxLocals := 3, code := jdk_52_method_93_code, exceptionTable := #[], attributes := #[] }
def k12m16 : Method := { name := "checkBoundsBeginEnd", desc := "(II[B)V", sig := { parameters := [.int, .int, (.array .byte)], returnType := none }, accessFlags := 9, code := some k12c16 }
/-- java/lang/StringUTF16 -/
def k12 : Class := { plain "java/lang/StringUTF16" (some 0) with
  accessFlags := 48
  interfaces := #[]
  cf := some (fileOf pool12 12 #[.nestMembers #[627, 629, 369]] #[{ accessFlags := 0, nameIndex := 9, descriptorIndex := 10, attributes := #[] }, { accessFlags := 9, nameIndex := 109, descriptorIndex := 110, attributes := #[] }, { accessFlags := 9, nameIndex := 15, descriptorIndex := 16, attributes := #[] }, { accessFlags := 8, nameIndex := 113, descriptorIndex := 114, attributes := #[] }, { accessFlags := 8, nameIndex := 73, descriptorIndex := 74, attributes := #[] }, { accessFlags := 9, nameIndex := 50, descriptorIndex := 51, attributes := #[] }, { accessFlags := 9, nameIndex := 121, descriptorIndex := 122, attributes := #[] }, { accessFlags := 8, nameIndex := 261, descriptorIndex := 262, attributes := #[] }, { accessFlags := 9, nameIndex := 117, descriptorIndex := 122, attributes := #[] }, { accessFlags := 9, nameIndex := 117, descriptorIndex := 118, attributes := #[] }, { accessFlags := 9, nameIndex := 121, descriptorIndex := 475, attributes := #[] }, { accessFlags := 9, nameIndex := 268, descriptorIndex := 231, attributes := #[] }, { accessFlags := 10, nameIndex := 230, descriptorIndex := 231, attributes := #[] }, { accessFlags := 10, nameIndex := 246, descriptorIndex := 231, attributes := #[] }, { accessFlags := 9, nameIndex := 392, descriptorIndex := 74, attributes := #[] }, { accessFlags := 9, nameIndex := 69, descriptorIndex := 70, attributes := #[] }, { accessFlags := 9, nameIndex := 98, descriptorIndex := 99, attributes := #[] }] 48 6 #[] #[{ accessFlags := 26, nameIndex := 61, descriptorIndex := 62, attributes := #[] }, { accessFlags := 26, nameIndex := 65, descriptorIndex := 62, attributes := #[] }, { accessFlags := 24, nameIndex := 430, descriptorIndex := 62, attributes := #[] }, { accessFlags := 4120, nameIndex := 46, descriptorIndex := 47, attributes := #[] }])
  fields := #[{ name := "HI_BYTE_SHIFT", type := .int, accessFlags := 26, slot := 0, constantValue := 0 }, { name := "LO_BYTE_SHIFT", type := .int, accessFlags := 26, slot := 1, constantValue := 0 }, { name := "MAX_LENGTH", type := .int, accessFlags := 24, slot := 2, constantValue := 0 }, { name := "$assertionsDisabled", type := .boolean, accessFlags := 4120, slot := 3, constantValue := 0 }]
  methods := #[k12m0, k12m1, k12m2, k12m3, k12m4, k12m5, k12m6, k12m7, k12m8, k12m9, k12m10, k12m11, k12m12, k12m13, k12m14, k12m15, k12m16]
  instanceTypes := #[]
  staticTypes := #[.int, .int, .int, .boolean]
  resolved := Array.replicate 635 none
  statics := some 2 }

def pool13 : Array CpInfo := pool [(9, u "<init>"), (6, .class_ 18), (1, u "java/lang/Object"), (0, u "()V"), (1, .class_ 23), (1, u "jdk/internal/util/ArraysSupport"), (0, u "LOG2_ARRAY_LONG_INDEX_SCALE"), (0, u "I"), (2, u "U"), (0, u "Ljdk/internal/misc/Unsafe;"), (8, u "BIG_ENDIAN"), (0, u "Z"), (8, u "LOG2_BYTE_BIT_SIZE"), (4, u "LOG2_ARRAY_INT_INDEX_SCALE"), (54, u "JLA"), (0, u "Ljdk/internal/access/JavaLangAccess;"), (11, u "LOG2_ARRAY_BOOLEAN_INDEX_SCALE"), (9, u "LOG2_ARRAY_BYTE_INDEX_SCALE"), (5, u "LOG2_ARRAY_CHAR_INDEX_SCALE"), (5, u "LOG2_ARRAY_SHORT_INDEX_SCALE"), (18, u "LOG2_ARRAY_FLOAT_INDEX_SCALE"), (24, u "LOG2_ARRAY_DOUBLE_INDEX_SCALE"), (89, u "T_BOOLEAN"), (2, u "T_CHAR"), (1, u "T_FLOAT"), (1, u "T_DOUBLE"), (1, u "T_BYTE"), (1, u "T_SHORT"), (1, u "T_INT"), (1, u "T_LONG"), (1, u "SOFT_MAX_ARRAY_LENGTH")] 83

def k13m0 : Method := { name := "<init>", desc := "()V", sig := { parameters := [], returnType := none }, accessFlags := 2, code := none }
/-- jdk/internal/util/ArraysSupport -/
def k13 : Class := { plain "jdk/internal/util/ArraysSupport" (some 0) with
  accessFlags := 33
  interfaces := #[]
  cf := some (fileOf pool13 21 #[] #[{ accessFlags := 2, nameIndex := 9, descriptorIndex := 19, attributes := #[] }] 33 16 #[] #[{ accessFlags := 24, nameIndex := 28, descriptorIndex := 29, attributes := #[] }, { accessFlags := 26, nameIndex := 38, descriptorIndex := 39, attributes := #[] }, { accessFlags := 25, nameIndex := 121, descriptorIndex := 25, attributes := #[] }, { accessFlags := 25, nameIndex := 131, descriptorIndex := 25, attributes := #[] }, { accessFlags := 25, nameIndex := 137, descriptorIndex := 25, attributes := #[] }, { accessFlags := 25, nameIndex := 143, descriptorIndex := 25, attributes := #[] }, { accessFlags := 25, nameIndex := 53, descriptorIndex := 25, attributes := #[] }, { accessFlags := 25, nameIndex := 24, descriptorIndex := 25, attributes := #[] }, { accessFlags := 25, nameIndex := 162, descriptorIndex := 25, attributes := #[] }, { accessFlags := 25, nameIndex := 187, descriptorIndex := 25, attributes := #[] }, { accessFlags := 26, nameIndex := 48, descriptorIndex := 25, attributes := #[] }, { accessFlags := 25, nameIndex := 277, descriptorIndex := 25, attributes := #[] }, { accessFlags := 25, nameIndex := 280, descriptorIndex := 25, attributes := #[] }, { accessFlags := 25, nameIndex := 282, descriptorIndex := 25, attributes := #[] }, { accessFlags := 25, nameIndex := 284, descriptorIndex := 25, attributes := #[] }, { accessFlags := 25, nameIndex := 286, descriptorIndex := 25, attributes := #[] }, { accessFlags := 25, nameIndex := 288, descriptorIndex := 25, attributes := #[] }, { accessFlags := 25, nameIndex := 290, descriptorIndex := 25, attributes := #[] }, { accessFlags := 25, nameIndex := 292, descriptorIndex := 25, attributes := #[] }, { accessFlags := 26, nameIndex := 108, descriptorIndex := 109, attributes := #[] }, { accessFlags := 25, nameIndex := 294, descriptorIndex := 25, attributes := #[] }])
  fields := #[{ name := "U", type := (.object "jdk/internal/misc/Unsafe"), accessFlags := 24, slot := 0, constantValue := 0 }, { name := "BIG_ENDIAN", type := .boolean, accessFlags := 26, slot := 1, constantValue := 0 }, { name := "LOG2_ARRAY_BOOLEAN_INDEX_SCALE", type := .int, accessFlags := 25, slot := 2, constantValue := 0 }, { name := "LOG2_ARRAY_BYTE_INDEX_SCALE", type := .int, accessFlags := 25, slot := 3, constantValue := 0 }, { name := "LOG2_ARRAY_CHAR_INDEX_SCALE", type := .int, accessFlags := 25, slot := 4, constantValue := 0 }, { name := "LOG2_ARRAY_SHORT_INDEX_SCALE", type := .int, accessFlags := 25, slot := 5, constantValue := 0 }, { name := "LOG2_ARRAY_INT_INDEX_SCALE", type := .int, accessFlags := 25, slot := 6, constantValue := 0 }, { name := "LOG2_ARRAY_LONG_INDEX_SCALE", type := .int, accessFlags := 25, slot := 7, constantValue := 0 }, { name := "LOG2_ARRAY_FLOAT_INDEX_SCALE", type := .int, accessFlags := 25, slot := 8, constantValue := 0 }, { name := "LOG2_ARRAY_DOUBLE_INDEX_SCALE", type := .int, accessFlags := 25, slot := 9, constantValue := 0 }, { name := "LOG2_BYTE_BIT_SIZE", type := .int, accessFlags := 26, slot := 10, constantValue := 0 }, { name := "T_BOOLEAN", type := .int, accessFlags := 25, slot := 11, constantValue := 0 }, { name := "T_CHAR", type := .int, accessFlags := 25, slot := 12, constantValue := 0 }, { name := "T_FLOAT", type := .int, accessFlags := 25, slot := 13, constantValue := 0 }, { name := "T_DOUBLE", type := .int, accessFlags := 25, slot := 14, constantValue := 0 }, { name := "T_BYTE", type := .int, accessFlags := 25, slot := 15, constantValue := 0 }, { name := "T_SHORT", type := .int, accessFlags := 25, slot := 16, constantValue := 0 }, { name := "T_INT", type := .int, accessFlags := 25, slot := 17, constantValue := 0 }, { name := "T_LONG", type := .int, accessFlags := 25, slot := 18, constantValue := 0 }, { name := "JLA", type := (.object "jdk/internal/access/JavaLangAccess"), accessFlags := 26, slot := 19, constantValue := 0 }, { name := "SOFT_MAX_ARRAY_LENGTH", type := .int, accessFlags := 25, slot := 20, constantValue := 0 }]
  methods := #[k13m0]
  instanceTypes := #[]
  staticTypes := #[(.object "jdk/internal/misc/Unsafe"), .boolean, .int, .int, .int, .int, .int, .int, .int, .int, .int, .int, .int, .int, .int, .int, .int, .int, .int, (.object "jdk/internal/access/JavaLangAccess"), .int]
  resolved := Array.replicate 378 none
  statics := none }

def pool14 : Array CpInfo := pool [(1, u "java/lang/Cloneable"), (0, .class_ 1), (0, u "java/lang/Object"), (0, .class_ 3)] 3

/-- java/lang/Cloneable -/
def k14 : Class := { plain "java/lang/Cloneable" (some 0) with
  accessFlags := 1537
  interfaces := #[]
  cf := some (fileOf pool14 2 #[] #[] 1537 4 #[] #[])
  fields := #[]
  methods := #[]
  instanceTypes := #[]
  staticTypes := #[]
  resolved := Array.replicate 8 none
  statics := none }

/-- the primitive byte -/
def k15 : Class := { plain "byte" none with kind := .primitive 'B', accessFlags := 0x411 }
/-- [B -/
def k16 : Class := { plain "[B" (some 0) with kind := .array 15 .byte, interfaces := #[14, 2], accessFlags := 1041 }

/-- the primitive char -/
def k17 : Class := { plain "char" none with kind := .primitive 'C', accessFlags := 0x411 }
/-- [C -/
def k18 : Class := { plain "[C" (some 0) with kind := .array 17 .char, interfaces := #[14, 2], accessFlags := 1041 }

/-- the primitive int -/
def k19 : Class := { plain "int" none with kind := .primitive 'I', accessFlags := 0x411 }
/-- [I -/
def k20 : Class := { plain "[I" (some 0) with kind := .array 19 .int, interfaces := #[14, 2], accessFlags := 1041 }

def heap : Heap := #[{ cls := 7, slots := #[.long 0, .int 1, .null, .int 0, .null, .int 0, .int 0], vm := .statics 7 },
  { cls := 10, slots := #[.null, .null, .null], vm := .statics 10 },
  { cls := 12, slots := #[.int 0, .int 8, .int 0, .int 1], vm := .statics 12 }]
def classes : Array Class := #[k0, k1, k2, k3, k4, k5, k6, k7, k8, k9, k10, k11, k12, k13, k14, k15, k16, k17, k18, k19, k20]
def interned : List (Array UInt16 × Addr) := []
def slotsUsed : Nat := 14
def theMethod : MethodId := ⟨1, 4⟩
def args0 : Array Value := #[.long 5, .long 6, .long 7, .int 8]
def aboutOver (below : List Frame) : State where
  vm := { classes := classes, interned := interned.toArray }
  heap := heap
  slotsUsed := slotsUsed
  threads := #[{ frames := .invoking theMethod args0 :: below }]
def below0 : List Frame := [.native { method := ⟨0, 0⟩, args := #[] }]
def about1 : State := aboutOver below0
def p0 : Program := .bare "" "" ""
def e0 : Env := launch0.env 0 0 0
theorem w_frames : about1.frames = Frame.invoking theMethod args0 :: below0 := rfl
set_option maxRecDepth 65536 in
theorem w_args : argsFit about1.vm theMethod args0 = true := by decide +kernel
set_option maxRecDepth 65536 in
theorem w_heap : heapFits about1 = true := by decide +kernel
set_option maxRecDepth 65536 in
theorem w_runnable : about1.curStatus? = some .runnable := by decide +kernel
set_option maxRecDepth 65536 in
theorem w_alone : about1.alone = true := by decide +kernel
set_option maxRecDepth 65536 in
theorem w_named : about1.methodNamed? x = some theMethod := by decide +kernel
set_option maxRecDepth 65536 in
theorem w_hears : about1.hears theMethod below0 = true := by decide +kernel
set_option maxRecDepth 65536 in
theorem w_ripe : about1.ripe theMethod args0 below0 = true := by decide +kernel
theorem w_running : about1.status = .running := rfl
set_option maxRecDepth 65536 in
theorem w_room : about1.hasRoom e0.platform room_1 = true :=
  launch0.hasRoom_least _ room_1 (by decide +kernel) (by decide +kernel) (by decide +kernel) (by decide +kernel) (by decide +kernel) (by decide +kernel)
theorem allAtoms_all (ts : List Jvm.Cond) (a : Array Jvm.Value) (st : Jvm.State) : (allAtoms ts).before a st = ts.all (fun c => c.before a st) := by
  induction ts with
  | nil => rfl
  | cons c t ih =>
    show (Jvm.Cond.and c (allAtoms t)).before a st = _
    rw [Jvm.Cond.before_and, ih, List.all_cons]
def words1 : List Jvm.Cond := Jvm.Cond.code x code maxLocals ret :: tables_1
/-- a 'code' word, met by the world's own term for the bytes: nothing is compared byte by byte -/
theorem code_word {y : MethodName} {bytes : ByteArray} {mx : Nat} {rt : Option FieldType} {a : Array Value} {s : State} {m : MethodId} {meth : Method} {c : Code} (h1 : s.methodNamed? y = some m) (h2 : s.vm.method? m = some meth) (h3 : meth.code = some c) (h4 : c.code = bytes)
    (h5 : (c.maxLocals == mx && c.exceptionTable.isEmpty && decide (c.maxStack ≤ mostOperands) && decide (meth.sig.returnType = rt) && !meth.locks && decide (parseMethodDescriptor y.desc = some meth.sig)) = true) : (Jvm.Cond.code y bytes mx rt).before a s = true := by
  simp only [Bool.and_eq_true, beq_iff_eq, Bool.not_eq_true', decide_eq_true_eq] at h5
  obtain ⟨⟨⟨⟨⟨g1, g2⟩, g3⟩, g4⟩, g5⟩, g6⟩ := h5
  simp [Cond.before, Cond.holds, Cond.value, h1, h2, h3, h4, g1, g2, g3, g4, g5, g6]
def isCode : Jvm.Cond → Bool
  | .code _ _ _ _ => true
  | _ => false
theorem all_split {L : List Jvm.Cond} {P : Jvm.Cond → Bool} (h1 : L.all (fun c => isCode c || P c) = true) (h2 : ∀ c ∈ L.filter isCode, P c = true) : L.all P = true := by
  refine List.all_eq_true.mpr fun c hc => ?_
  have h := List.all_eq_true.mp h1 c hc
  rcases Bool.eq_false_or_eq_true (isCode c) with hi | hi
  · exact h2 c (List.mem_filter.mpr ⟨hc, hi⟩)
  · simpa [hi] using h
set_option maxRecDepth 65536 in
theorem w_c0 : (Jvm.Cond.code x code maxLocals ret).before args0 about1 = true := code_word (m := ⟨1, 4⟩) (meth := k1m4) (c := k1c4) (by decide +kernel) rfl rfl rfl (by decide +kernel)
set_option maxRecDepth 65536 in
theorem w_c1 : (Jvm.Cond.code ({ cls := "com/example/pourcode/pourcode/input/LineCounterCountPinLaw", name := "ch", desc := "(I)C" } : Jvm.MethodName) method_2_code (2 : Nat) (Option.some Jvm.ClassFile.FieldType.char)).before args0 about1 = true := code_word (m := ⟨1, 1⟩) (meth := k1m1) (c := k1c1) (by decide +kernel) rfl rfl rfl (by decide +kernel)
set_option maxRecDepth 65536 in
theorem w_c2 : (Jvm.Cond.code ({ cls := "com/example/pourcode/pourcode/input/LineCounterCountPinLaw", name := "piece", desc := "(I[CIICCI)I" } : Jvm.MethodName) method_4_code (8 : Nat) (Option.some Jvm.ClassFile.FieldType.int)).before args0 about1 = true := code_word (m := ⟨1, 3⟩) (meth := k1m3) (c := k1c3) (by decide +kernel) rfl rfl rfl (by decide +kernel)
set_option maxRecDepth 65536 in
theorem w_c3 : (Jvm.Cond.code ({ cls := "com/example/pourcode/pourcode/input/LineCounter", name := "<init>", desc := "(Ljava/lang/String;)V" } : Jvm.MethodName) prog_59_method_1_code (4 : Nat) (Option.none : Option Jvm.ClassFile.FieldType)).before args0 about1 = true := code_word (m := ⟨8, 0⟩) (meth := k8m0) (c := k8c0) (by decide +kernel) rfl rfl rfl (by decide +kernel)
set_option maxRecDepth 65536 in
theorem w_c4 : (Jvm.Cond.code ({ cls := "java/lang/Object", name := "<init>", desc := "()V" } : Jvm.MethodName) object_method_1_code (1 : Nat) (Option.none : Option Jvm.ClassFile.FieldType)).before args0 about1 = true := code_word (m := ⟨0, 0⟩) (meth := k0m0) (c := k0c0) (by decide +kernel) rfl rfl rfl (by decide +kernel)
set_option maxRecDepth 65536 in
theorem w_c5 : (Jvm.Cond.code ({ cls := "java/lang/String", name := "length", desc := "()I" } : Jvm.MethodName) jdk_42_method_54_code (1 : Nat) (Option.some Jvm.ClassFile.FieldType.int)).before args0 about1 = true := code_word (m := ⟨7, 2⟩) (meth := k7m2) (c := k7c2) (by decide +kernel) rfl rfl rfl (by decide +kernel)
set_option maxRecDepth 65536 in
theorem w_c6 : (Jvm.Cond.code ({ cls := "java/lang/String", name := "coder", desc := "()B" } : Jvm.MethodName) jdk_42_method_152_code (1 : Nat) (Option.some Jvm.ClassFile.FieldType.byte)).before args0 about1 = true := code_word (m := ⟨7, 9⟩) (meth := k7m9) (c := k7c9) (by decide +kernel) rfl rfl rfl (by decide +kernel)
set_option maxRecDepth 65536 in
theorem w_c7 : (Jvm.Cond.code ({ cls := "com/example/pourcode/pourcode/input/LineCounter", name := "count", desc := "([CII)V" } : Jvm.MethodName) prog_59_method_4_code (5 : Nat) (Option.none : Option Jvm.ClassFile.FieldType)).before args0 about1 = true := code_word (m := ⟨8, 1⟩) (meth := k8m1) (c := k8c1) (by decide +kernel) rfl rfl rfl (by decide +kernel)
set_option maxRecDepth 65536 in
theorem w_c8 : (Jvm.Cond.code ({ cls := "com/example/pourcode/pourcode/input/LineCounter", name := "line", desc := "()I" } : Jvm.MethodName) prog_59_method_5_code (1 : Nat) (Option.some Jvm.ClassFile.FieldType.int)).before args0 about1 = true := code_word (m := ⟨8, 2⟩) (meth := k8m2) (c := k8c2) (by decide +kernel) rfl rfl rfl (by decide +kernel)
set_option maxRecDepth 65536 in
theorem w_c9 : (Jvm.Cond.code ({ cls := "java/lang/String", name := "valueOf", desc := "(C)Ljava/lang/String;" } : Jvm.MethodName) jdk_42_method_139_code (1 : Nat) (Option.some (Jvm.ClassFile.FieldType.object "java/lang/String"))).before args0 about1 = true := code_word (m := ⟨7, 6⟩) (meth := k7m6) (c := k7c6) (by decide +kernel) rfl rfl rfl (by decide +kernel)
set_option maxRecDepth 65536 in
theorem w_c10 : (Jvm.Cond.code ({ cls := "java/lang/StringLatin1", name := "canEncode", desc := "(C)Z" } : Jvm.MethodName) jdk_43_method_3_code (1 : Nat) (Option.some Jvm.ClassFile.FieldType.boolean)).before args0 about1 = true := code_word (m := ⟨9, 2⟩) (meth := k9m2) (c := k9c2) (by decide +kernel) rfl rfl rfl (by decide +kernel)
set_option maxRecDepth 65536 in
theorem w_c11 : (Jvm.Cond.code ({ cls := "java/lang/StringLatin1", name := "toBytes", desc := "(C)[B" } : Jvm.MethodName) jdk_43_method_46_code (1 : Nat) (Option.some (Jvm.ClassFile.FieldType.array Jvm.ClassFile.FieldType.byte))).before args0 about1 = true := code_word (m := ⟨9, 6⟩) (meth := k9m6) (c := k9c6) (by decide +kernel) rfl rfl rfl (by decide +kernel)
set_option maxRecDepth 65536 in
theorem w_c12 : (Jvm.Cond.code ({ cls := "java/lang/String", name := "<init>", desc := "([BB)V" } : Jvm.MethodName) jdk_42_method_151_code (3 : Nat) (Option.none : Option Jvm.ClassFile.FieldType)).before args0 about1 = true := code_word (m := ⟨7, 8⟩) (meth := k7m8) (c := k7c8) (by decide +kernel) rfl rfl rfl (by decide +kernel)
set_option maxRecDepth 65536 in
theorem w_c13 : (Jvm.Cond.code ({ cls := "com/example/pourcode/pourcode/input/LineCounterCountPinLaw", name := "stepRef", desc := "(ICCCI)I" } : Jvm.MethodName) method_3_code (11 : Nat) (Option.some Jvm.ClassFile.FieldType.int)).before args0 about1 = true := code_word (m := ⟨1, 2⟩) (meth := k1m2) (c := k1c2) (by decide +kernel) rfl rfl rfl (by decide +kernel)
set_option maxRecDepth 65536 in
theorem w_c14 : (Jvm.Cond.code ({ cls := "java/lang/String", name := "charAt", desc := "(I)C" } : Jvm.MethodName) jdk_42_method_56_code (2 : Nat) (Option.some Jvm.ClassFile.FieldType.char)).before args0 about1 = true := code_word (m := ⟨7, 3⟩) (meth := k7m3) (c := k7c3) (by decide +kernel) rfl rfl rfl (by decide +kernel)
set_option maxRecDepth 65536 in
theorem w_c15 : (Jvm.Cond.code ({ cls := "java/lang/String", name := "isLatin1", desc := "()Z" } : Jvm.MethodName) jdk_42_method_154_code (1 : Nat) (Option.some Jvm.ClassFile.FieldType.boolean)).before args0 about1 = true := code_word (m := ⟨7, 10⟩) (meth := k7m10) (c := k7c10) (by decide +kernel) rfl rfl rfl (by decide +kernel)
set_option maxRecDepth 65536 in
theorem w_c16 : (Jvm.Cond.code ({ cls := "java/lang/StringLatin1", name := "charAt", desc := "([BI)C" } : Jvm.MethodName) jdk_43_method_2_code (2 : Nat) (Option.some Jvm.ClassFile.FieldType.char)).before args0 about1 = true := code_word (m := ⟨9, 1⟩) (meth := k9m1) (c := k9c1) (by decide +kernel) rfl rfl rfl (by decide +kernel)
set_option maxRecDepth 65536 in
theorem w_c17 : (Jvm.Cond.code ({ cls := "java/lang/String", name := "checkIndex", desc := "(II)V" } : Jvm.MethodName) jdk_42_method_155_code (2 : Nat) (Option.none : Option Jvm.ClassFile.FieldType)).before args0 about1 = true := code_word (m := ⟨7, 11⟩) (meth := k7m11) (c := k7c11) (by decide +kernel) rfl rfl rfl (by decide +kernel)
set_option maxRecDepth 65536 in
theorem w_c18 : (Jvm.Cond.code ({ cls := "jdk/internal/util/Preconditions", name := "checkIndex", desc := "(IILjava/util/function/BiFunction;)I" } : Jvm.MethodName) jdk_41_method_11_code (3 : Nat) (Option.some Jvm.ClassFile.FieldType.int)).before args0 about1 = true := code_word (m := ⟨10, 1⟩) (meth := k10m1) (c := k10c1) (by decide +kernel) rfl rfl rfl (by decide +kernel)
set_option maxRecDepth 65536 in
theorem w_c19 : (Jvm.Cond.code ({ cls := "java/lang/Math", name := "max", desc := "(II)I" } : Jvm.MethodName) jdk_29_method_65_code (2 : Nat) (Option.some Jvm.ClassFile.FieldType.int)).before args0 about1 = true := code_word (m := ⟨11, 1⟩) (meth := k11m1) (c := k11c1) (by decide +kernel) rfl rfl rfl (by decide +kernel)
set_option maxRecDepth 65536 in
theorem w_c20 : (Jvm.Cond.code ({ cls := "com/example/pourcode/pourcode/input/LineCounter", name := "step", desc := "(C)V" } : Jvm.MethodName) prog_59_method_6_code (3 : Nat) (Option.none : Option Jvm.ClassFile.FieldType)).before args0 about1 = true := code_word (m := ⟨8, 3⟩) (meth := k8m3) (c := k8c3) (by decide +kernel) rfl rfl rfl (by decide +kernel)
set_option maxRecDepth 65536 in
theorem w_c21 : (Jvm.Cond.code ({ cls := "java/lang/String", name := "<init>", desc := "([C)V" } : Jvm.MethodName) jdk_42_method_3_code (2 : Nat) (Option.none : Option Jvm.ClassFile.FieldType)).before args0 about1 = true := code_word (m := ⟨7, 1⟩) (meth := k7m1) (c := k7c1) (by decide +kernel) rfl rfl rfl (by decide +kernel)
set_option maxRecDepth 65536 in
theorem w_c22 : (Jvm.Cond.code ({ cls := "java/lang/String", name := "<init>", desc := "([CIILjava/lang/Void;)V" } : Jvm.MethodName) jdk_42_method_149_code (6 : Nat) (Option.none : Option Jvm.ClassFile.FieldType)).before args0 about1 = true := code_word (m := ⟨7, 7⟩) (meth := k7m7) (c := k7c7) (by decide +kernel) rfl rfl rfl (by decide +kernel)
set_option maxRecDepth 65536 in
theorem w_c23 : (Jvm.Cond.code ({ cls := "java/lang/StringUTF16", name := "compress", desc := "([CII)[B" } : Jvm.MethodName) jdk_52_method_16_code (6 : Nat) (Option.some (Jvm.ClassFile.FieldType.array Jvm.ClassFile.FieldType.byte))).before args0 about1 = true := code_word (m := ⟨12, 8⟩) (meth := k12m8) (c := k12c8) (by decide +kernel) rfl rfl rfl (by decide +kernel)
set_option maxRecDepth 65536 in
theorem w_c24 : (Jvm.Cond.code ({ cls := "java/lang/StringUTF16", name := "compress", desc := "([CI[BII)I" } : Jvm.MethodName) jdk_52_method_21_code (7 : Nat) (Option.some Jvm.ClassFile.FieldType.int)).before args0 about1 = true := code_word (m := ⟨12, 9⟩) (meth := k12m9) (c := k12c9) (by decide +kernel) rfl rfl rfl (by decide +kernel)
set_option maxRecDepth 65536 in
theorem w_c25 : (Jvm.Cond.code ({ cls := "java/lang/StringUTF16", name := "toBytes", desc := "([CII)[B" } : Jvm.MethodName) jdk_52_method_14_code (5 : Nat) (Option.some (Jvm.ClassFile.FieldType.array Jvm.ClassFile.FieldType.byte))).before args0 about1 = true := code_word (m := ⟨12, 6⟩) (meth := k12m6) (c := k12c6) (by decide +kernel) rfl rfl rfl (by decide +kernel)
set_option maxRecDepth 65536 in
theorem w_c26 : (Jvm.Cond.code ({ cls := "java/lang/StringUTF16", name := "newBytesFor", desc := "(I)[B" } : Jvm.MethodName) jdk_52_method_2_code (1 : Nat) (Option.some (Jvm.ClassFile.FieldType.array Jvm.ClassFile.FieldType.byte))).before args0 about1 = true := code_word (m := ⟨12, 1⟩) (meth := k12m1) (c := k12c1) (by decide +kernel) rfl rfl rfl (by decide +kernel)
set_option maxRecDepth 65536 in
theorem w_c27 : (Jvm.Cond.code ({ cls := "java/lang/StringUTF16", name := "newBytesLength", desc := "(I)I" } : Jvm.MethodName) jdk_52_method_3_code (1 : Nat) (Option.some Jvm.ClassFile.FieldType.int)).before args0 about1 = true := code_word (m := ⟨12, 2⟩) (meth := k12m2) (c := k12c2) (by decide +kernel) rfl rfl rfl (by decide +kernel)
set_option maxRecDepth 65536 in
theorem w_c28 : (Jvm.Cond.code ({ cls := "java/lang/StringUTF16", name := "putChar", desc := "([BII)V" } : Jvm.MethodName) jdk_52_method_4_code (3 : Nat) (Option.none : Option Jvm.ClassFile.FieldType)).before args0 about1 = true := code_word (m := ⟨12, 3⟩) (meth := k12m3) (c := k12c3) (by decide +kernel) rfl rfl rfl (by decide +kernel)
set_option maxRecDepth 65536 in
theorem w_c29 : (Jvm.Cond.code ({ cls := "java/lang/StringUTF16", name := "getChar", desc := "([BI)C" } : Jvm.MethodName) jdk_52_method_5_code (2 : Nat) (Option.some Jvm.ClassFile.FieldType.char)).before args0 about1 = true := code_word (m := ⟨12, 4⟩) (meth := k12m4) (c := k12c4) (by decide +kernel) rfl rfl rfl (by decide +kernel)
set_option maxRecDepth 65536 in
theorem w_c30 : (Jvm.Cond.code ({ cls := "java/lang/StringUTF16", name := "coderFromArrayLen", desc := "([BI)B" } : Jvm.MethodName) jdk_52_method_15_code (2 : Nat) (Option.some Jvm.ClassFile.FieldType.byte)).before args0 about1 = true := code_word (m := ⟨12, 7⟩) (meth := k12m7) (c := k12c7) (by decide +kernel) rfl rfl rfl (by decide +kernel)
set_option maxRecDepth 65536 in
theorem w_c31 : (Jvm.Cond.code ({ cls := "java/lang/StringUTF16", name := "charAt", desc := "([BI)C" } : Jvm.MethodName) jdk_52_method_83_code (2 : Nat) (Option.some Jvm.ClassFile.FieldType.char)).before args0 about1 = true := code_word (m := ⟨12, 14⟩) (meth := k12m14) (c := k12c14) (by decide +kernel) rfl rfl rfl (by decide +kernel)
set_option maxRecDepth 65536 in
theorem w_c32 : (Jvm.Cond.code ({ cls := "java/lang/StringUTF16", name := "checkIndex", desc := "(I[B)V" } : Jvm.MethodName) jdk_52_method_91_code (2 : Nat) (Option.none : Option Jvm.ClassFile.FieldType)).before args0 about1 = true := code_word (m := ⟨12, 15⟩) (meth := k12m15) (c := k12c15) (by decide +kernel) rfl rfl rfl (by decide +kernel)
set_option maxRecDepth 65536 in
theorem w_c33 : (Jvm.Cond.code ({ cls := "java/lang/StringUTF16", name := "length", desc := "([B)I" } : Jvm.MethodName) jdk_52_method_6_code (1 : Nat) (Option.some Jvm.ClassFile.FieldType.int)).before args0 about1 = true := code_word (m := ⟨12, 5⟩) (meth := k12m5) (c := k12c5) (by decide +kernel) rfl rfl rfl (by decide +kernel)
set_option maxRecDepth 65536 in
theorem w_c34 : (Jvm.Cond.code ({ cls := "java/lang/String", name := "indexOf", desc := "(I)I" } : Jvm.MethodName) jdk_42_method_79_code (2 : Nat) (Option.some Jvm.ClassFile.FieldType.int)).before args0 about1 = true := code_word (m := ⟨7, 4⟩) (meth := k7m4) (c := k7c4) (by decide +kernel) rfl rfl rfl (by decide +kernel)
set_option maxRecDepth 65536 in
theorem w_c35 : (Jvm.Cond.code ({ cls := "java/lang/String", name := "indexOf", desc := "(II)I" } : Jvm.MethodName) jdk_42_method_80_code (3 : Nat) (Option.some Jvm.ClassFile.FieldType.int)).before args0 about1 = true := code_word (m := ⟨7, 5⟩) (meth := k7m5) (c := k7c5) (by decide +kernel) rfl rfl rfl (by decide +kernel)
set_option maxRecDepth 65536 in
theorem w_c36 : (Jvm.Cond.code ({ cls := "java/lang/StringUTF16", name := "indexOf", desc := "([BIII)I" } : Jvm.MethodName) jdk_52_method_40_code (4 : Nat) (Option.some Jvm.ClassFile.FieldType.int)).before args0 about1 = true := code_word (m := ⟨12, 11⟩) (meth := k12m11) (c := k12c11) (by decide +kernel) rfl rfl rfl (by decide +kernel)
set_option maxRecDepth 65536 in
theorem w_c37 : (Jvm.Cond.code ({ cls := "java/lang/Math", name := "min", desc := "(II)I" } : Jvm.MethodName) jdk_29_method_69_code (2 : Nat) (Option.some Jvm.ClassFile.FieldType.int)).before args0 about1 = true := code_word (m := ⟨11, 2⟩) (meth := k11m2) (c := k11c2) (by decide +kernel) rfl rfl rfl (by decide +kernel)
set_option maxRecDepth 65536 in
theorem w_c38 : (Jvm.Cond.code ({ cls := "java/lang/StringUTF16", name := "indexOfChar", desc := "([BIII)I" } : Jvm.MethodName) jdk_52_method_47_code (4 : Nat) (Option.some Jvm.ClassFile.FieldType.int)).before args0 about1 = true := code_word (m := ⟨12, 12⟩) (meth := k12m12) (c := k12c12) (by decide +kernel) rfl rfl rfl (by decide +kernel)
set_option maxRecDepth 65536 in
theorem w_c39 : (Jvm.Cond.code ({ cls := "java/lang/StringUTF16", name := "checkBoundsBeginEnd", desc := "(II[B)V" } : Jvm.MethodName) jdk_52_method_93_code (3 : Nat) (Option.none : Option Jvm.ClassFile.FieldType)).before args0 about1 = true := code_word (m := ⟨12, 16⟩) (meth := k12m16) (c := k12c16) (by decide +kernel) rfl rfl rfl (by decide +kernel)
set_option maxRecDepth 65536 in
theorem w_c40 : (Jvm.Cond.code ({ cls := "java/lang/String", name := "checkBoundsBeginEnd", desc := "(III)V" } : Jvm.MethodName) jdk_42_method_158_code (3 : Nat) (Option.none : Option Jvm.ClassFile.FieldType)).before args0 about1 = true := code_word (m := ⟨7, 12⟩) (meth := k7m12) (c := k7c12) (by decide +kernel) rfl rfl rfl (by decide +kernel)
set_option maxRecDepth 65536 in
theorem w_c41 : (Jvm.Cond.code ({ cls := "jdk/internal/util/Preconditions", name := "checkFromToIndex", desc := "(IIILjava/util/function/BiFunction;)I" } : Jvm.MethodName) jdk_41_method_12_code (4 : Nat) (Option.some Jvm.ClassFile.FieldType.int)).before args0 about1 = true := code_word (m := ⟨10, 2⟩) (meth := k10m2) (c := k10c2) (by decide +kernel) rfl rfl rfl (by decide +kernel)
set_option maxRecDepth 65536 in
theorem w_c42 : (Jvm.Cond.code ({ cls := "java/lang/StringUTF16", name := "indexOfCharUnsafe", desc := "([BIII)I" } : Jvm.MethodName) jdk_52_method_48_code (5 : Nat) (Option.some Jvm.ClassFile.FieldType.int)).before args0 about1 = true := code_word (m := ⟨12, 13⟩) (meth := k12m13) (c := k12c13) (by decide +kernel) rfl rfl rfl (by decide +kernel)
set_option maxRecDepth 65536 in
theorem w_c43 : (Jvm.Cond.code ({ cls := "java/lang/StringLatin1", name := "indexOf", desc := "([BIII)I" } : Jvm.MethodName) jdk_43_method_22_code (4 : Nat) (Option.some Jvm.ClassFile.FieldType.int)).before args0 about1 = true := code_word (m := ⟨9, 4⟩) (meth := k9m4) (c := k9c4) (by decide +kernel) rfl rfl rfl (by decide +kernel)
set_option maxRecDepth 65536 in
theorem w_c44 : (Jvm.Cond.code ({ cls := "java/lang/StringLatin1", name := "canEncode", desc := "(I)Z" } : Jvm.MethodName) jdk_43_method_4_code (1 : Nat) (Option.some Jvm.ClassFile.FieldType.boolean)).before args0 about1 = true := code_word (m := ⟨9, 3⟩) (meth := k9m3) (c := k9c3) (by decide +kernel) rfl rfl rfl (by decide +kernel)
set_option maxRecDepth 65536 in
theorem w_c45 : (Jvm.Cond.code ({ cls := "java/lang/StringLatin1", name := "indexOfChar", desc := "([BIII)I" } : Jvm.MethodName) jdk_43_method_23_code (6 : Nat) (Option.some Jvm.ClassFile.FieldType.int)).before args0 about1 = true := code_word (m := ⟨9, 5⟩) (meth := k9m5) (c := k9c5) (by decide +kernel) rfl rfl rfl (by decide +kernel)
set_option maxRecDepth 65536 in
theorem w_c46 : (Jvm.Cond.code ({ cls := "java/lang/StringUTF16", name := "toBytes", desc := "(C)[B" } : Jvm.MethodName) jdk_52_method_24_code (2 : Nat) (Option.some (Jvm.ClassFile.FieldType.array Jvm.ClassFile.FieldType.byte))).before args0 about1 = true := code_word (m := ⟨12, 10⟩) (meth := k12m10) (c := k12c10) (by decide +kernel) rfl rfl rfl (by decide +kernel)
def codes1 : List Jvm.Cond := [Jvm.Cond.code x code maxLocals ret, Jvm.Cond.code ({ cls := "com/example/pourcode/pourcode/input/LineCounterCountPinLaw", name := "ch", desc := "(I)C" } : Jvm.MethodName) method_2_code (2 : Nat) (Option.some Jvm.ClassFile.FieldType.char), Jvm.Cond.code ({ cls := "com/example/pourcode/pourcode/input/LineCounterCountPinLaw", name := "piece", desc := "(I[CIICCI)I" } : Jvm.MethodName) method_4_code (8 : Nat) (Option.some Jvm.ClassFile.FieldType.int), Jvm.Cond.code ({ cls := "com/example/pourcode/pourcode/input/LineCounter", name := "<init>", desc := "(Ljava/lang/String;)V" } : Jvm.MethodName) prog_59_method_1_code (4 : Nat) (Option.none : Option Jvm.ClassFile.FieldType), Jvm.Cond.code ({ cls := "java/lang/Object", name := "<init>", desc := "()V" } : Jvm.MethodName) object_method_1_code (1 : Nat) (Option.none : Option Jvm.ClassFile.FieldType), Jvm.Cond.code ({ cls := "java/lang/String", name := "length", desc := "()I" } : Jvm.MethodName) jdk_42_method_54_code (1 : Nat) (Option.some Jvm.ClassFile.FieldType.int), Jvm.Cond.code ({ cls := "java/lang/String", name := "coder", desc := "()B" } : Jvm.MethodName) jdk_42_method_152_code (1 : Nat) (Option.some Jvm.ClassFile.FieldType.byte), Jvm.Cond.code ({ cls := "com/example/pourcode/pourcode/input/LineCounter", name := "count", desc := "([CII)V" } : Jvm.MethodName) prog_59_method_4_code (5 : Nat) (Option.none : Option Jvm.ClassFile.FieldType), Jvm.Cond.code ({ cls := "com/example/pourcode/pourcode/input/LineCounter", name := "line", desc := "()I" } : Jvm.MethodName) prog_59_method_5_code (1 : Nat) (Option.some Jvm.ClassFile.FieldType.int), Jvm.Cond.code ({ cls := "java/lang/String", name := "valueOf", desc := "(C)Ljava/lang/String;" } : Jvm.MethodName) jdk_42_method_139_code (1 : Nat) (Option.some (Jvm.ClassFile.FieldType.object "java/lang/String")), Jvm.Cond.code ({ cls := "java/lang/StringLatin1", name := "canEncode", desc := "(C)Z" } : Jvm.MethodName) jdk_43_method_3_code (1 : Nat) (Option.some Jvm.ClassFile.FieldType.boolean), Jvm.Cond.code ({ cls := "java/lang/StringLatin1", name := "toBytes", desc := "(C)[B" } : Jvm.MethodName) jdk_43_method_46_code (1 : Nat) (Option.some (Jvm.ClassFile.FieldType.array Jvm.ClassFile.FieldType.byte)), Jvm.Cond.code ({ cls := "java/lang/String", name := "<init>", desc := "([BB)V" } : Jvm.MethodName) jdk_42_method_151_code (3 : Nat) (Option.none : Option Jvm.ClassFile.FieldType), Jvm.Cond.code ({ cls := "com/example/pourcode/pourcode/input/LineCounterCountPinLaw", name := "stepRef", desc := "(ICCCI)I" } : Jvm.MethodName) method_3_code (11 : Nat) (Option.some Jvm.ClassFile.FieldType.int), Jvm.Cond.code ({ cls := "java/lang/String", name := "charAt", desc := "(I)C" } : Jvm.MethodName) jdk_42_method_56_code (2 : Nat) (Option.some Jvm.ClassFile.FieldType.char), Jvm.Cond.code ({ cls := "java/lang/String", name := "isLatin1", desc := "()Z" } : Jvm.MethodName) jdk_42_method_154_code (1 : Nat) (Option.some Jvm.ClassFile.FieldType.boolean), Jvm.Cond.code ({ cls := "java/lang/StringLatin1", name := "charAt", desc := "([BI)C" } : Jvm.MethodName) jdk_43_method_2_code (2 : Nat) (Option.some Jvm.ClassFile.FieldType.char), Jvm.Cond.code ({ cls := "java/lang/String", name := "checkIndex", desc := "(II)V" } : Jvm.MethodName) jdk_42_method_155_code (2 : Nat) (Option.none : Option Jvm.ClassFile.FieldType), Jvm.Cond.code ({ cls := "jdk/internal/util/Preconditions", name := "checkIndex", desc := "(IILjava/util/function/BiFunction;)I" } : Jvm.MethodName) jdk_41_method_11_code (3 : Nat) (Option.some Jvm.ClassFile.FieldType.int), Jvm.Cond.code ({ cls := "java/lang/Math", name := "max", desc := "(II)I" } : Jvm.MethodName) jdk_29_method_65_code (2 : Nat) (Option.some Jvm.ClassFile.FieldType.int), Jvm.Cond.code ({ cls := "com/example/pourcode/pourcode/input/LineCounter", name := "step", desc := "(C)V" } : Jvm.MethodName) prog_59_method_6_code (3 : Nat) (Option.none : Option Jvm.ClassFile.FieldType), Jvm.Cond.code ({ cls := "java/lang/String", name := "<init>", desc := "([C)V" } : Jvm.MethodName) jdk_42_method_3_code (2 : Nat) (Option.none : Option Jvm.ClassFile.FieldType), Jvm.Cond.code ({ cls := "java/lang/String", name := "<init>", desc := "([CIILjava/lang/Void;)V" } : Jvm.MethodName) jdk_42_method_149_code (6 : Nat) (Option.none : Option Jvm.ClassFile.FieldType), Jvm.Cond.code ({ cls := "java/lang/StringUTF16", name := "compress", desc := "([CII)[B" } : Jvm.MethodName) jdk_52_method_16_code (6 : Nat) (Option.some (Jvm.ClassFile.FieldType.array Jvm.ClassFile.FieldType.byte)), Jvm.Cond.code ({ cls := "java/lang/StringUTF16", name := "compress", desc := "([CI[BII)I" } : Jvm.MethodName) jdk_52_method_21_code (7 : Nat) (Option.some Jvm.ClassFile.FieldType.int), Jvm.Cond.code ({ cls := "java/lang/StringUTF16", name := "toBytes", desc := "([CII)[B" } : Jvm.MethodName) jdk_52_method_14_code (5 : Nat) (Option.some (Jvm.ClassFile.FieldType.array Jvm.ClassFile.FieldType.byte)), Jvm.Cond.code ({ cls := "java/lang/StringUTF16", name := "newBytesFor", desc := "(I)[B" } : Jvm.MethodName) jdk_52_method_2_code (1 : Nat) (Option.some (Jvm.ClassFile.FieldType.array Jvm.ClassFile.FieldType.byte)), Jvm.Cond.code ({ cls := "java/lang/StringUTF16", name := "newBytesLength", desc := "(I)I" } : Jvm.MethodName) jdk_52_method_3_code (1 : Nat) (Option.some Jvm.ClassFile.FieldType.int), Jvm.Cond.code ({ cls := "java/lang/StringUTF16", name := "putChar", desc := "([BII)V" } : Jvm.MethodName) jdk_52_method_4_code (3 : Nat) (Option.none : Option Jvm.ClassFile.FieldType), Jvm.Cond.code ({ cls := "java/lang/StringUTF16", name := "getChar", desc := "([BI)C" } : Jvm.MethodName) jdk_52_method_5_code (2 : Nat) (Option.some Jvm.ClassFile.FieldType.char), Jvm.Cond.code ({ cls := "java/lang/StringUTF16", name := "coderFromArrayLen", desc := "([BI)B" } : Jvm.MethodName) jdk_52_method_15_code (2 : Nat) (Option.some Jvm.ClassFile.FieldType.byte), Jvm.Cond.code ({ cls := "java/lang/StringUTF16", name := "charAt", desc := "([BI)C" } : Jvm.MethodName) jdk_52_method_83_code (2 : Nat) (Option.some Jvm.ClassFile.FieldType.char), Jvm.Cond.code ({ cls := "java/lang/StringUTF16", name := "checkIndex", desc := "(I[B)V" } : Jvm.MethodName) jdk_52_method_91_code (2 : Nat) (Option.none : Option Jvm.ClassFile.FieldType), Jvm.Cond.code ({ cls := "java/lang/StringUTF16", name := "length", desc := "([B)I" } : Jvm.MethodName) jdk_52_method_6_code (1 : Nat) (Option.some Jvm.ClassFile.FieldType.int), Jvm.Cond.code ({ cls := "java/lang/String", name := "indexOf", desc := "(I)I" } : Jvm.MethodName) jdk_42_method_79_code (2 : Nat) (Option.some Jvm.ClassFile.FieldType.int), Jvm.Cond.code ({ cls := "java/lang/String", name := "indexOf", desc := "(II)I" } : Jvm.MethodName) jdk_42_method_80_code (3 : Nat) (Option.some Jvm.ClassFile.FieldType.int), Jvm.Cond.code ({ cls := "java/lang/StringUTF16", name := "indexOf", desc := "([BIII)I" } : Jvm.MethodName) jdk_52_method_40_code (4 : Nat) (Option.some Jvm.ClassFile.FieldType.int), Jvm.Cond.code ({ cls := "java/lang/Math", name := "min", desc := "(II)I" } : Jvm.MethodName) jdk_29_method_69_code (2 : Nat) (Option.some Jvm.ClassFile.FieldType.int), Jvm.Cond.code ({ cls := "java/lang/StringUTF16", name := "indexOfChar", desc := "([BIII)I" } : Jvm.MethodName) jdk_52_method_47_code (4 : Nat) (Option.some Jvm.ClassFile.FieldType.int), Jvm.Cond.code ({ cls := "java/lang/StringUTF16", name := "checkBoundsBeginEnd", desc := "(II[B)V" } : Jvm.MethodName) jdk_52_method_93_code (3 : Nat) (Option.none : Option Jvm.ClassFile.FieldType), Jvm.Cond.code ({ cls := "java/lang/String", name := "checkBoundsBeginEnd", desc := "(III)V" } : Jvm.MethodName) jdk_42_method_158_code (3 : Nat) (Option.none : Option Jvm.ClassFile.FieldType), Jvm.Cond.code ({ cls := "jdk/internal/util/Preconditions", name := "checkFromToIndex", desc := "(IIILjava/util/function/BiFunction;)I" } : Jvm.MethodName) jdk_41_method_12_code (4 : Nat) (Option.some Jvm.ClassFile.FieldType.int), Jvm.Cond.code ({ cls := "java/lang/StringUTF16", name := "indexOfCharUnsafe", desc := "([BIII)I" } : Jvm.MethodName) jdk_52_method_48_code (5 : Nat) (Option.some Jvm.ClassFile.FieldType.int), Jvm.Cond.code ({ cls := "java/lang/StringLatin1", name := "indexOf", desc := "([BIII)I" } : Jvm.MethodName) jdk_43_method_22_code (4 : Nat) (Option.some Jvm.ClassFile.FieldType.int), Jvm.Cond.code ({ cls := "java/lang/StringLatin1", name := "canEncode", desc := "(I)Z" } : Jvm.MethodName) jdk_43_method_4_code (1 : Nat) (Option.some Jvm.ClassFile.FieldType.boolean), Jvm.Cond.code ({ cls := "java/lang/StringLatin1", name := "indexOfChar", desc := "([BIII)I" } : Jvm.MethodName) jdk_43_method_23_code (6 : Nat) (Option.some Jvm.ClassFile.FieldType.int), Jvm.Cond.code ({ cls := "java/lang/StringUTF16", name := "toBytes", desc := "(C)[B" } : Jvm.MethodName) jdk_52_method_24_code (2 : Nat) (Option.some (Jvm.ClassFile.FieldType.array Jvm.ClassFile.FieldType.byte))]
set_option maxRecDepth 65536 in
theorem codes_eq : words1.filter isCode = codes1 := rfl
theorem w_codes : ∀ c ∈ words1.filter isCode, c.before args0 about1 = true := by
  rw [codes_eq]
  intro c hc
  simp only [codes1, List.mem_cons, List.not_mem_nil, or_false] at hc
  rcases hc with rfl | rfl | rfl | rfl | rfl | rfl | rfl | rfl | rfl | rfl | rfl | rfl | rfl | rfl | rfl | rfl | rfl | rfl | rfl | rfl | rfl | rfl | rfl | rfl | rfl | rfl | rfl | rfl | rfl | rfl | rfl | rfl | rfl | rfl | rfl | rfl | rfl | rfl | rfl | rfl | rfl | rfl | rfl | rfl | rfl | rfl | rfl
  · exact w_c0
  · exact w_c1
  · exact w_c2
  · exact w_c3
  · exact w_c4
  · exact w_c5
  · exact w_c6
  · exact w_c7
  · exact w_c8
  · exact w_c9
  · exact w_c10
  · exact w_c11
  · exact w_c12
  · exact w_c13
  · exact w_c14
  · exact w_c15
  · exact w_c16
  · exact w_c17
  · exact w_c18
  · exact w_c19
  · exact w_c20
  · exact w_c21
  · exact w_c22
  · exact w_c23
  · exact w_c24
  · exact w_c25
  · exact w_c26
  · exact w_c27
  · exact w_c28
  · exact w_c29
  · exact w_c30
  · exact w_c31
  · exact w_c32
  · exact w_c33
  · exact w_c34
  · exact w_c35
  · exact w_c36
  · exact w_c37
  · exact w_c38
  · exact w_c39
  · exact w_c40
  · exact w_c41
  · exact w_c42
  · exact w_c43
  · exact w_c44
  · exact w_c45
  · exact w_c46
set_option maxRecDepth 65536 in
theorem w_t1 : (words1.take 24).all (fun c => isCode c || c.before args0 about1) = true := by decide +kernel
set_option maxRecDepth 65536 in
theorem w_t2 : ((words1.drop 24).take 24).all (fun c => isCode c || c.before args0 about1) = true := by decide +kernel
set_option maxRecDepth 65536 in
theorem w_t3 : (((words1.drop 24).drop 24).take 24).all (fun c => isCode c || c.before args0 about1) = true := by decide +kernel
set_option maxRecDepth 65536 in
theorem w_t4 : ((((words1.drop 24).drop 24).drop 24).take 24).all (fun c => isCode c || c.before args0 about1) = true := by decide +kernel
set_option maxRecDepth 65536 in
theorem w_t5 : (((((words1.drop 24).drop 24).drop 24).drop 24).take 24).all (fun c => isCode c || c.before args0 about1) = true := by decide +kernel
set_option maxRecDepth 65536 in
theorem w_t6 : ((((((words1.drop 24).drop 24).drop 24).drop 24).drop 24).take 24).all (fun c => isCode c || c.before args0 about1) = true := by decide +kernel
set_option maxRecDepth 65536 in
theorem w_t7 : (((((((words1.drop 24).drop 24).drop 24).drop 24).drop 24).drop 24).take 24).all (fun c => isCode c || c.before args0 about1) = true := by decide +kernel
set_option maxRecDepth 65536 in
theorem w_t8 : ((((((((words1.drop 24).drop 24).drop 24).drop 24).drop 24).drop 24).drop 24).take 24).all (fun c => isCode c || c.before args0 about1) = true := by decide +kernel
set_option maxRecDepth 65536 in
theorem w_t9 : ((((((((words1.drop 24).drop 24).drop 24).drop 24).drop 24).drop 24).drop 24).drop 24).all (fun c => isCode c || c.before args0 about1) = true := by decide +kernel
theorem w_tables : (allAtoms (Jvm.Cond.code x code maxLocals ret :: tables_1)).before args0 about1 = true := by
  rw [allAtoms_all]
  show words1.all (fun c => c.before args0 about1) = true
  refine all_split ?_ w_codes
  rw [← List.take_append_drop 24 words1, List.all_append, w_t1, ← List.take_append_drop 24 (words1.drop 24), List.all_append, w_t2, ← List.take_append_drop 24 ((words1.drop 24).drop 24), List.all_append, w_t3, ← List.take_append_drop 24 (((words1.drop 24).drop 24).drop 24), List.all_append, w_t4, ← List.take_append_drop 24 ((((words1.drop 24).drop 24).drop 24).drop 24), List.all_append, w_t5, ← List.take_append_drop 24 (((((words1.drop 24).drop 24).drop 24).drop 24).drop 24), List.all_append, w_t6, ← List.take_append_drop 24 ((((((words1.drop 24).drop 24).drop 24).drop 24).drop 24).drop 24), List.all_append, w_t7, ← List.take_append_drop 24 (((((((words1.drop 24).drop 24).drop 24).drop 24).drop 24).drop 24).drop 24), List.all_append, w_t8, w_t9]
  rfl
set_option maxRecDepth 65536 in
theorem w_rest : rest_1_c.before args0 about1 = true := by decide +kernel
set_option maxRecDepth 65536 in
theorem w_case : (Jvm.Cond.and given_1 narrow_1).before args0 about1 = true := by decide +kernel
set_option maxRecDepth 65536 in
theorem w_consts : constsHeld consts_1 about1 := Jvm.Lit.constsHeldB_iff.mp (by decide +kernel)
theorem w_applies : (headSpec (Jvm.Cond.code x code maxLocals ret :: tables_1) room_1).applies x e0.platform about1 = true :=
  (Spec.applies_iff w_frames).mpr ⟨w_running, w_runnable, w_alone, w_named, w_hears, w_ripe, w_room, w_tables⟩
theorem atStart : AtStart classFile x code maxLocals ret World_1 tables_1 room_1 Calls_1 rest_1 Pre_1 launch0 p0 e0 about1 theMethod args0 below0 :=
  ⟨lists_1, trivial, launch0.admits_env _ _ _, launch0.least_env, fairChoices_fair.cas, fairChoices_fair.clock, w_frames, w_args, w_heap, w_applies, ⟨w_consts, trivial⟩, w_rest, w_case⟩
end start1
theorem witness_1 : WitnessClaimed_1 := ⟨start1.p0, start1.e0, start1.about1, start1.theMethod, start1.args0, start1.below0, start1.atStart⟩
end Jvm.Pilot.@@N@@
