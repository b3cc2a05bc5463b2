import JvmDerived
import JvmDerived.Pilot.@@N@@Statement
import JvmDerived.Pilot.@@N@@Code
set_option linter.unusedVariables false
set_option linter.unusedSimpArgs false
@@BLOCK:NumsL.lean.txt@@
@@BLOCK:TracedD.lean.txt@@
namespace Jvm.RoadKit
open Sem ClassFile Op Lib Jvm.Stand Jvm.Free Jvm.LawKit
section New
variable {p : Program} {l : Launch} {e : Env} {R : Room} {s : State} {m : MethodId} {args : Array Value} {below : List Frame} {meth : Method} {c : Code} {T : State} {locs : List Loc} {cells slots : Nat}
theorem retI (X : Stand p l e R s m args below meth c T locs cells slots) (hx : p.tables.exec = Jvm.exec) {pc : Nat} {Ls : Array Slot} {z : Int32} {rest : List Value} (hret : meth.sig.returnType = some .int) (hd : decode c.code pc = .ok (.ireturn, 1)) {fs : List Frame}
    (hl : ∀ (f : JFrame) (acts : List Action), f.method = m → f.locked = none → f.entered = [] → (doReturn e (T.setTop f) acts (some (.int z))).1 = T.setFrames fs) : Steps p.tables e below (T.setTop (mkF m pc Ls (.int z :: rest))) (T.setFrames fs) := by
  have hm' : T.vm.method? m = some meth := X.method'
  have hn : narrow .int (.int z) = .int z := rfl
  show Steps p.tables e below (T.setTop { method := m, pc := pc, locals := Ls, stack := _ :: rest, locked := none }) _
  jvm_step X.here [X.here.top, hx, hd, hm', hret, hn]
  first | (intro acts; rw [hl _ acts rfl rfl rfl]) | rw [hl _ _ rfl rfl rfl]
  exact Steps.refl _
end New
end Jvm.RoadKit
namespace Jvm.Pilot.@@N@@
open Jvm Jvm.ClassFile Sem Op Lib Jvm.Free Jvm.Stand Jvm.LawKit Jvm.RoadKit Bundle Jvm.Pilot.@@N@@.Jvm.D
def Go (p : Program) (e : Env) (below : List Frame) (T : State) (f : JFrame) (S0 : State) : Prop := ∀ t, Steps p.tables e below (T.setTop f) t → Steps p.tables e below S0 t
set_option maxRecDepth 65536
set_option maxHeartbeats 40000000
abbrev Hw (a0 : Array Value) (Z : State) : Prop := ∀ d ∈ tables_1, d.before a0 Z = true
abbrev rM (a b c d : Nat) : Room := { frames := a, cells := b, slots := c, locals := d }
abbrev MF (l : Launch) (y : MethodName) (bytes : ByteArray) (maxL : Nat) (ret : Option FieldType) (ws : List Cond) (R : Room) (A : Array Value) (Z : State) (h0 : Heap) (Q : Option Value → Heap → List Loc → Prop) : Prop := MetFree l y (head1 (Cond.code y bytes maxL ret :: ws) R) (fun a U => a = A ∧ Z.Warmed39 U.vm ∧ U.heap = h0) (fun _ _ _ _ _ => True) (fun _ U o U' => ∃ v L, o = .returned v ∧ Q v U'.heap L ∧ FrameEnd U o U' L R.cells R.slots)
abbrev MFK (l : Launch) (y : MethodName) (bytes : ByteArray) (maxL : Nat) (ret : Option FieldType) (ws : List Cond) (R : Room) (A : Array Value) (Z : State) (h0 : Heap) (Q : Option Value → Heap → List Loc → Prop) : Prop := MetFree l y (head1 (Cond.code y bytes maxL ret :: ws) R) (fun a U => a = A ∧ Z.Warmed39 U.vm ∧ U.heap = h0) (fun _ _ bl st _ => st.vm.MethodsKnown ∧ st.vm.FramesKnown bl) (fun _ U o U' => ∃ v L, o = .returned v ∧ Q v U'.heap L ∧ FrameEnd U o U' L R.cells R.slots)
theorem wi {a0 : Array Value} {Z : State} (hw : ∀ d ∈ tables_1, d.before a0 Z = true) (i : Nat) {d : Cond} (h : tables_1[i]? = some d) : d.before a0 Z = true := hw d (List.mem_of_getElem? h)
theorem own_bodyF {l : Launch} {y : MethodName} {bytes : ByteArray} {maxL : Nat} {ret : Option FieldType} {ws : List Cond} {R : Room} {A : Array Value} {Z : State} {h0 : Heap} (n0 : Nat) {K : Program → Env → List Frame → State → Array Value → Prop} {Q : Option Value → Heap → List Loc → Prop} {F : MethodId → JFrame}
    (hp : plainFor y = true) (hE : ∀ m, entryFrame m A maxL = F m)
    (body : ∀ p e s m below meth c s₁ S0, p.tables.exec = Jvm.exec → c.code = bytes → c.maxLocals = maxL → Z.Warmed39 s.vm → s.vm.findClass y.cls = some m.cls → meth.name = y.name → meth.sig.returnType = ret → meth.locks = false → Stand p l e R s m A below meth c s₁ [] 0 0 → s₁.heap = h0 → s.heap = h0 → Fr n0 [] → K p e below s A → Go p e below s₁ (F m) S0 →
      ∃ s₂ o, Steps p.tables e below S0 s₂ ∧ s₂.status = .running ∧ Ended s₂ below o ∧ ∃ v L, o = .returned v ∧ Q v s₂.heap L ∧ FrameEnd s o s₂ L R.cells R.slots) :
    MetFree l y (head1 (Cond.code y bytes maxL ret :: ws) R) (fun a U => a = A ∧ Z.Warmed39 U.vm ∧ U.heap = h0) K (fun _ U o U' => ∃ v L, o = .returned v ∧ Q v U'.heap L ∧ FrameEnd U o U' L R.cells R.slots) := by
  refine MetFree.of_bodySF hp hisR ?_
  intro p e s m args below meth c s₁ Bd hml hP hK
  obtain ⟨rfl, hZ, hh⟩ := hP
  exact body p e s m below meth c s₁ _ Bd.exec Bd.bytes hml hZ (findClass_of_methodNamed Bd.named) (name_of_methodNamed Bd.named Bd.method).1 Bd.returns Bd.notSynchronized (Stand.of_body Bd) (by rw [← hh, Bd.state]; rfl) hh (Fr.nil n0) hK (fun t k => castTop (hE m) k)
section Leave
variable {p : Program} {l : Launch} {e : Env} {R : Room} {s : State} {m : MethodId} {args : Array Value} {below : List Frame} {meth : Method} {c : Code} {T : State} {locs : List Loc} {cells slots : Nat} {S0 : State} {h : Heap} {Q : Option Value → Heap → List Loc → Prop} {pc : Nat} {Ls : Array Slot}
theorem own_leaveV (X : Stand p l e R s m args below meth c T locs cells slots) (hx : p.tables.exec = Jvm.exec) (hret : meth.sig.returnType = none) (hlk : meth.locks = false) (hd : decode c.code pc = .ok (.return_, 1)) (go : Go p e below T (mkF m pc Ls []) S0) (eT : T.heap = h) (hq : Q none h locs) (hc : cells ≤ R.cells) (hs : slots ≤ R.slots) :
    ∃ s₂ o, Steps p.tables e below S0 s₂ ∧ s₂.status = .running ∧ Ended s₂ below o ∧ ∃ v L, o = .returned v ∧ Q v s₂.heap L ∧ FrameEnd s o s₂ L R.cells R.slots := by
  obtain ⟨fs, hr, hrun, hended, hW, hsame⟩ := X.leave (v := none) (fun _ => rfl)
  refine ⟨_, _, go _ (X.returnOut hx hret hd hr), hrun, hended, _, _, rfl, ?_, ⟨_, rfl⟩, hW, hsame.mono hc hs⟩
  show Q none T.heap _
  rw [eT]; exact hq
theorem own_leaveN {t : FieldType} {z : Int32} (ht : t = .boolean ∨ t = .byte ∨ t = .char ∨ t = .short) (X : Stand p l e R s m args below meth c T locs cells slots) (hx : p.tables.exec = Jvm.exec) (hret : meth.sig.returnType = some t) (hlk : meth.locks = false) (hd : decode c.code pc = .ok (.ireturn, 1)) (go : Go p e below T (mkF m pc Ls [.int z]) S0) (eT : T.heap = h) (hq : Q (some (.int (nar t z))) h locs) (hc : cells ≤ R.cells) (hs : slots ≤ R.slots) :
    ∃ s₂ o, Steps p.tables e below S0 s₂ ∧ s₂.status = .running ∧ Ended s₂ below o ∧ ∃ v L, o = .returned v ∧ Q v s₂.heap L ∧ FrameEnd s o s₂ L R.cells R.slots := by
  obtain ⟨fs, hr, hrun, hended, hW, hsame⟩ := X.leave (v := some (.int (nar t z))) (fun h => by rw [hret] at h; cases h)
  refine ⟨_, _, go _ (retN X hx (t := t) hret ht hd hr), hrun, hended, _, _, rfl, ?_, ⟨_, rfl⟩, hW, hsame.mono hc hs⟩
  show Q _ T.heap _
  rw [eT]; exact hq
theorem own_leaveI {z : Int32} (X : Stand p l e R s m args below meth c T locs cells slots) (hx : p.tables.exec = Jvm.exec) (hret : meth.sig.returnType = some .int) (hlk : meth.locks = false) (hd : decode c.code pc = .ok (.ireturn, 1)) (go : Go p e below T (mkF m pc Ls [.int z]) S0) (eT : T.heap = h) (hq : Q (some (.int z)) h locs) (hc : cells ≤ R.cells) (hs : slots ≤ R.slots) :
    ∃ s₂ o, Steps p.tables e below S0 s₂ ∧ s₂.status = .running ∧ Ended s₂ below o ∧ ∃ v L, o = .returned v ∧ Q v s₂.heap L ∧ FrameEnd s o s₂ L R.cells R.slots := by
  obtain ⟨fs, hr, hrun, hended, hW, hsame⟩ := X.leave (v := some (.int z)) (fun h => by rw [hret] at h; cases h)
  refine ⟨_, _, go _ (retI X hx hret hd hr), hrun, hended, _, _, rfl, ?_, ⟨_, rfl⟩, hW, hsame.mono hc hs⟩
  show Q _ T.heap _
  rw [eT]; exact hq
theorem own_leaveO {C : String} {a : Addr} (X : Stand p l e R s m args below meth c T locs cells slots) (hx : p.tables.exec = Jvm.exec) (hret : meth.sig.returnType = some (.object C)) (hlk : meth.locks = false) (hd : decode c.code pc = .ok (.areturn, 1)) (go : Go p e below T (mkF m pc Ls [.ref a]) S0) (eT : T.heap = h) (hq : Q (some (.ref a)) h locs) (hc : cells ≤ R.cells) (hs : slots ≤ R.slots) :
    ∃ s₂ o, Steps p.tables e below S0 s₂ ∧ s₂.status = .running ∧ Ended s₂ below o ∧ ∃ v L, o = .returned v ∧ Q v s₂.heap L ∧ FrameEnd s o s₂ L R.cells R.slots := by
  obtain ⟨fs, hr, hrun, hended, hW, hsame⟩ := X.leave (v := some (.ref a)) (fun h => by rw [hret] at h; cases h)
  refine ⟨_, _, go _ ?_, hrun, hended, _, _, rfl, ?_, ⟨_, rfl⟩, hW, hsame.mono hc hs⟩
  · jvm_step X.here [X.here.top, hx, hd, X.method', hret, Value.isRef, FieldType.isReference]
    first | (intro acts; rw [hr _ acts rfl rfl rfl]) | rw [hr _ _ rfl rfl rfl]
    exact Steps.refl _
  · show Q _ T.heap _
    rw [eT]; exact hq
theorem own_leaveA {t : FieldType} {a : Addr} (X : Stand p l e R s m args below meth c T locs cells slots) (hx : p.tables.exec = Jvm.exec) (hret : meth.sig.returnType = some (.array t)) (hlk : meth.locks = false) (hd : decode c.code pc = .ok (.areturn, 1)) (go : Go p e below T (mkF m pc Ls [.ref a]) S0) (eT : T.heap = h) (hq : Q (some (.ref a)) h locs) (hc : cells ≤ R.cells) (hs : slots ≤ R.slots) :
    ∃ s₂ o, Steps p.tables e below S0 s₂ ∧ s₂.status = .running ∧ Ended s₂ below o ∧ ∃ v L, o = .returned v ∧ Q v s₂.heap L ∧ FrameEnd s o s₂ L R.cells R.slots := by
  obtain ⟨fs, hr, hrun, hended, hW, hsame⟩ := X.leave (v := some (.ref a)) (fun h => by rw [hret] at h; cases h)
  refine ⟨_, _, go _ ?_, hrun, hended, _, _, rfl, ?_, ⟨_, rfl⟩, hW, hsame.mono hc hs⟩
  · jvm_step X.here [X.here.top, hx, hd, X.method', hret, Value.isRef, FieldType.isReference]
    first | (intro acts; rw [hr _ acts rfl rfl rfl]) | rw [hr _ _ rfl rfl rfl]
    exact Steps.refl _
  · show Q _ T.heap _
    rw [eT]; exact hq
end Leave
abbrev y0_ : MethodName := ⟨"java/lang/StringBuilder", "append", "(Ljava/lang/String;)Ljava/lang/StringBuilder;"⟩
abbrev y1_ : MethodName := ⟨"java/lang/String", "length", "()I"⟩
abbrev y2_ : MethodName := ⟨"java/lang/AbstractStringBuilder", "isLatin1", "()Z"⟩
abbrev y3_ : MethodName := ⟨"java/lang/String", "<init>", "([C)V"⟩
abbrev y4_ : MethodName := ⟨"java/lang/String", "coder", "()B"⟩
abbrev y5_ : MethodName := ⟨"java/lang/StringBuilder", "toString", "()Ljava/lang/String;"⟩
abbrev y6_ : MethodName := ⟨"java/lang/AbstractStringBuilder", "append", "(Ljava/lang/String;)Ljava/lang/AbstractStringBuilder;"⟩
abbrev y7_ : MethodName := ⟨"java/lang/AbstractStringBuilder", "ensureCapacityInternal", "(I)V"⟩
abbrev y8_ : MethodName := ⟨"com/example/ceresio/ceresio/StateFormat", "malformed", "(Ljava/lang/String;)Ljava/lang/IllegalArgumentException;"⟩
abbrev y9_ : MethodName := ⟨"java/lang/AbstractStringBuilder", "putStringAt", "(ILjava/lang/String;)V"⟩
abbrev y10_ : MethodName := ⟨"java/lang/String", "<init>", "([CIILjava/lang/Void;)V"⟩
abbrev y11_ : MethodName := ⟨"java/lang/String", "getBytes", "([BIB)V"⟩
abbrev y12_ : MethodName := ⟨"java/lang/String", "equals", "(Ljava/lang/Object;)Z"⟩
abbrev y13_ : MethodName := ⟨"java/lang/AbstractStringBuilder", "getValue", "()[B"⟩
abbrev y14_ : MethodName := ⟨"java/lang/AbstractStringBuilder", "length", "()I"⟩
abbrev y15_ : MethodName := ⟨"java/lang/String", "<init>", "(Ljava/lang/AbstractStringBuilder;Ljava/lang/Void;)V"⟩
abbrev y16_ : MethodName := ⟨"java/lang/Math", "min", "(II)I"⟩
abbrev y17_ : MethodName := ⟨"java/lang/StringUTF16", "coderFromArrayLen", "([BI)B"⟩
abbrev y18_ : MethodName := ⟨"java/lang/StringUTF16", "compress", "([CII)[B"⟩
abbrev y19_ : MethodName := ⟨"java/lang/String", "<init>", "(Ljava/lang/StringBuilder;)V"⟩
abbrev y20_ : MethodName := ⟨"java/lang/StringUTF16", "compress", "([CI[BII)I"⟩
abbrev y21_ : MethodName := ⟨"jdk/internal/util/Preconditions", "checkIndex", "(IILjava/util/function/BiFunction;)I"⟩
abbrev y22_ : MethodName := ⟨"java/lang/AbstractStringBuilder", "inflateIfNeededFor", "(Ljava/lang/String;)V"⟩
abbrev y23_ : MethodName := ⟨"jdk/internal/util/Preconditions", "checkFromIndexSize", "(IIILjava/util/function/BiFunction;)I"⟩
abbrev y24_ : MethodName := ⟨"java/lang/IllegalArgumentException", "<init>", "(Ljava/lang/String;)V"⟩
abbrev y25_ : MethodName := ⟨"java/lang/Throwable", "getMessage", "()Ljava/lang/String;"⟩
abbrev y26_ : MethodName := ⟨"java/lang/String", "isLatin1", "()Z"⟩
abbrev y27_ : MethodName := ⟨"java/lang/StringBuilder", "<init>", "()V"⟩
abbrev y28_ : MethodName := ⟨"java/util/Arrays", "copyOfRange", "([BII)[B"⟩
abbrev y29_ : MethodName := ⟨"java/lang/StringBuilder", "length", "()I"⟩
abbrev y30_ : MethodName := ⟨"java/lang/String", "charAt", "(I)C"⟩
abbrev y31_ : MethodName := ⟨"java/lang/StringUTF16", "putChar", "([BII)V"⟩
abbrev y32_ : MethodName := ⟨"java/lang/StringUTF16", "newBytesFor", "(I)[B"⟩
abbrev y33_ : MethodName := ⟨"java/lang/String", "checkIndex", "(II)V"⟩
abbrev y34_ : MethodName := ⟨"java/lang/StringUTF16", "checkBoundsOffCount", "(II[B)V"⟩
abbrev y35_ : MethodName := ⟨"java/lang/StringUTF16", "newBytesLength", "(I)I"⟩
abbrev y36_ : MethodName := ⟨"java/lang/AbstractStringBuilder", "<init>", "(I)V"⟩
abbrev y37_ : MethodName := ⟨"java/lang/String", "checkBoundsOffCount", "(III)I"⟩
abbrev y38_ : MethodName := ⟨"java/lang/AbstractStringBuilder", "newCapacity", "(I)I"⟩
abbrev y39_ : MethodName := ⟨"java/lang/RuntimeException", "<init>", "(Ljava/lang/String;)V"⟩
abbrev y40_ : MethodName := ⟨"java/lang/StringUTF16", "toBytes", "([CII)[B"⟩
abbrev y41_ : MethodName := ⟨"java/lang/AbstractStringBuilder", "appendNull", "()Ljava/lang/AbstractStringBuilder;"⟩
abbrev y42_ : MethodName := ⟨"java/lang/StringUTF16", "length", "([B)I"⟩
abbrev y43_ : MethodName := ⟨"jdk/internal/util/ArraysSupport", "newLength", "(III)I"⟩
abbrev y44_ : MethodName := ⟨"java/util/Arrays", "checkLength", "(II)V"⟩
abbrev y45_ : MethodName := ⟨"java/lang/Exception", "<init>", "(Ljava/lang/String;)V"⟩
abbrev y46_ : MethodName := ⟨"java/lang/StringLatin1", "equals", "([B[B)Z"⟩
abbrev y47_ : MethodName := ⟨"java/util/Arrays", "copyOfRangeByte", "([BII)[B"⟩
abbrev y48_ : MethodName := ⟨"java/lang/StringUTF16", "inflate", "([BI[BII)V"⟩
abbrev y49_ : MethodName := ⟨"java/lang/AbstractStringBuilder", "inflate", "()V"⟩
abbrev y50_ : MethodName := ⟨"java/lang/Throwable", "<init>", "(Ljava/lang/String;)V"⟩
abbrev y51_ : MethodName := ⟨"java/lang/StringUTF16", "getChar", "([BI)C"⟩
abbrev y52_ : MethodName := ⟨"java/lang/Throwable", "getCause", "()Ljava/lang/Throwable;"⟩
abbrev y53_ : MethodName := ⟨"java/lang/Math", "max", "(II)I"⟩
abbrev y54_ : MethodName := ⟨"java/lang/IllegalArgumentException", "getCause", "()Ljava/lang/Throwable;"⟩
abbrev y55_ : MethodName := ⟨"java/util/Arrays", "copyOf", "([BI)[B"⟩
abbrev y56_ : MethodName := ⟨"java/lang/IllegalArgumentException", "getMessage", "()Ljava/lang/String;"⟩
abbrev y57_ : MethodName := ⟨"java/lang/StringLatin1", "charAt", "([BI)C"⟩
abbrev y58_ : MethodName := ⟨"java/lang/StringLatin1", "inflate", "([BI[BII)V"⟩
theorem oE {h h' : Heap} (K : Keep h h' []) : Ext h h' := ⟨K.1, fun a c q => K.2.1 a c q (by simp)⟩
theorem own_ks {h0 h h' : Heap} {ws : List Addr} (g : h' = h) (K : Keep h0 h ws) : Keep h0 h' ws := by rw [g]; exact K
theorem oC {n : Nat} (h : n < 2 ^ 31) : (Int32.ofNat n).toNatClampNeg = n := Int32.toNatClampNeg_ofNat_of_lt h
theorem oN {n : Nat} (h : n < 2 ^ 31) : ¬ Int32.ofNat n < (0 : Int32) := by
  rw [Int32.lt_iff_toInt_lt, Int32.toInt_ofNat_of_lt h]
  have : (0 : Int32).toInt = 0 := rfl
  omega
theorem own_shl {n : Nat} (h : n < 2 ^ 20) : Int32.ofNat n <<< ((1 : Int32) &&& 31) = Int32.ofNat (2 * n) := by
  have e0 : (Int32.ofNat n).toInt = n := Int32.toInt_ofNat_of_lt (by omega)
  have e := Jvm.Kit.i32_shl (Int32.ofNat n) ((1 : Int32) &&& 31) (k := 1) (by decide) (by omega) (by omega)
  apply Int32.toInt_inj.mp
  rw [e, e0, Int32.toInt_ofNat_of_lt (by omega)]
  omega
theorem own_one (i : Nat) : Int32.ofNat i + (1 : Int32) = Int32.ofNat (i + 1) := (Int32.ofNat_add i 1).symm
def own_hi (c : Int32) : Int32 := nar .byte ((c >>> ((0 : Int32) &&& 31)).toInt8.toInt32)
def own_lo (c : Int32) : Int32 := nar .byte ((c >>> ((8 : Int32) &&& 31)).toInt8.toInt32)
abbrev Dc (c : ByteArray) (p : Nat) (i : Instr) (n : Nat) : Prop := decode c p = .ok (i, n)
abbrev c0 : ByteArray := jdk_29_method_65_code
abbrev c1 : ByteArray := jdk_29_method_69_code
abbrev c2 : ByteArray := jdk_41_method_11_code
abbrev c3 : ByteArray := jdk_41_method_13_code
abbrev c4 : ByteArray := jdk_42_method_147_code
abbrev c5 : ByteArray := jdk_42_method_149_code
abbrev c6 : ByteArray := jdk_42_method_150_code
abbrev c7 : ByteArray := jdk_42_method_152_code
abbrev c8 : ByteArray := jdk_42_method_154_code
abbrev c9 : ByteArray := jdk_42_method_155_code
abbrev c10 : ByteArray := jdk_42_method_157_code
abbrev c11 : ByteArray := jdk_42_method_3_code
abbrev c12 : ByteArray := jdk_42_method_53_code
abbrev c13 : ByteArray := jdk_42_method_54_code
abbrev c14 : ByteArray := jdk_42_method_56_code
abbrev c15 : ByteArray := jdk_42_method_66_code
abbrev c16 : ByteArray := jdk_43_method_13_code
abbrev c17 : ByteArray := jdk_43_method_2_code
abbrev c18 : ByteArray := jdk_43_method_50_code
abbrev c19 : ByteArray := jdk_48_method_27_code
abbrev c20 : ByteArray := jdk_52_method_14_code
abbrev c21 : ByteArray := jdk_52_method_15_code
abbrev c22 : ByteArray := jdk_52_method_16_code
abbrev c23 : ByteArray := jdk_52_method_21_code
abbrev c24 : ByteArray := jdk_52_method_2_code
abbrev c25 : ByteArray := jdk_52_method_3_code
abbrev c26 : ByteArray := jdk_52_method_4_code
abbrev c27 : ByteArray := jdk_52_method_5_code
abbrev c28 : ByteArray := jdk_52_method_6_code
abbrev c29 : ByteArray := jdk_52_method_86_code
abbrev c30 : ByteArray := jdk_52_method_94_code
abbrev c31 : ByteArray := jdk_57_method_2_code
abbrev c32 : ByteArray := jdk_58_method_2_code
abbrev c33 : ByteArray := jdk_59_method_2_code
abbrev c34 : ByteArray := jdk_65_method_121_code
abbrev c35 : ByteArray := jdk_65_method_131_code
abbrev c36 : ByteArray := jdk_65_method_132_code
abbrev c37 : ByteArray := jdk_65_method_133_code
abbrev c38 : ByteArray := jdk_67_method_1_code
abbrev c39 : ByteArray := jdk_67_method_42_code
abbrev c40 : ByteArray := jdk_67_method_7_code
abbrev c41 : ByteArray := jdk_67_method_93_code
abbrev c42 : ByteArray := jdk_68_method_10_code
abbrev c43 : ByteArray := jdk_68_method_11_code
abbrev c44 : ByteArray := jdk_68_method_22_code
abbrev c45 : ByteArray := jdk_68_method_26_code
abbrev c46 : ByteArray := jdk_68_method_2_code
abbrev c47 : ByteArray := jdk_68_method_64_code
abbrev c48 : ByteArray := jdk_68_method_68_code
abbrev c49 : ByteArray := jdk_68_method_6_code
abbrev c50 : ByteArray := jdk_68_method_71_code
abbrev c51 : ByteArray := jdk_68_method_73_code
abbrev c52 : ByteArray := jdk_68_method_9_code
abbrev c53 : ByteArray := jdk_78_method_2_code
abbrev c54 : ByteArray := jdk_78_method_6_code
abbrev c55 : ByteArray := prog_11_method_3_code
theorem pnj_1 : plainName "java/lang/StringUTF16" = true := by first | (simp [plainName, overriddenIn]; done) | decide +kernel
theorem efj_rm_putChar (m : MethodId) (a1 : Addr) (i : Nat) (p3 : Int32) : entryFrame m #[(.ref a1), (.int (Int32.ofNat i)), (.int p3)] 3 = mkF m 0 #[.val (.ref a1), .val (.int (Int32.ofNat i)), .val (.int p3)] [] := by first | (simp [entryFrame, mkF, argsToLocals, Value.category]; done) | rfl
theorem d1_0 : Dc c26 0 (.getstatic 44) 3 := by decide +kernel
theorem d1_3 : Dc c26 3 (.ifCond .ne 25) 3 := by decide +kernel
theorem d1_28 : Dc c26 28 (.iload_n 1) 1 := by decide +kernel
theorem d1_29 : Dc c26 29 (.iconst 1) 1 := by decide +kernel
theorem d1_30 : Dc c26 30 (.ishl) 1 := by decide +kernel
theorem d1_31 : Dc c26 31 (.istore_n 1) 1 := by decide +kernel
theorem d1_32 : Dc c26 32 (.aload_n 0) 1 := by decide +kernel
theorem d1_33 : Dc c26 33 (.iload_n 1) 1 := by decide +kernel
theorem d1_34 : Dc c26 34 (.iinc 1 1) 3 := by decide +kernel
theorem d1_37 : Dc c26 37 (.iload_n 2) 1 := by decide +kernel
theorem d1_38 : Dc c26 38 (.getstatic 59) 3 := by decide +kernel
theorem d1_41 : Dc c26 41 (.ishr) 1 := by decide +kernel
theorem d1_42 : Dc c26 42 (.i2b) 1 := by decide +kernel
theorem d1_43 : Dc c26 43 (.bastore) 1 := by decide +kernel
theorem d1_44 : Dc c26 44 (.aload_n 0) 1 := by decide +kernel
theorem d1_45 : Dc c26 45 (.iload_n 1) 1 := by decide +kernel
theorem d1_46 : Dc c26 46 (.iload_n 2) 1 := by decide +kernel
theorem d1_47 : Dc c26 47 (.getstatic 63) 3 := by decide +kernel
theorem d1_50 : Dc c26 50 (.ishr) 1 := by decide +kernel
theorem d1_51 : Dc c26 51 (.i2b) 1 := by decide +kernel
theorem d1_52 : Dc c26 52 (.bastore) 1 := by decide +kernel
theorem d1_53 : Dc c26 53 (.return_) 1 := by decide +kernel
def Q_rm_putChar (Z : State) (a1 : Addr) (i : Nat) (p3 : Int32) (k : ClassId) (z : Int32) (vs : List Value) (h0 : Heap) (n0 : Nat) (v : Option Value) (h : Heap) (L : List Loc) : Prop := v = none ∧ Fr n0 L ∧ Keep h0 h [a1] ∧ Arv Z h a1 k .byte z ((vs.set (2 * i) (.int (own_hi p3))).set (2 * i + 1) (.int (own_lo p3))) (.int (0 : Int32))
theorem rm_putChar (l : Launch) (Z : State) (a0 : Array Value) (hw : Hw a0 Z) (ws : List Jvm.Cond) (a1 : Addr) (i : Nat) (p3 : Int32) (k : ClassId) (z : Int32) (vs : List Value) (h0 : Heap) (n0 : Nat) (Z0 : n0 ≤ h0.size) (S_AD : Sta Z h0 "java/lang/StringUTF16" "$assertionsDisabled" "Z" (.int (1 : Int32))) (S_HI : Sta Z h0 "java/lang/StringUTF16" "HI_BYTE_SHIFT" "I" (.int (0 : Int32))) (S_LO : Sta Z h0 "java/lang/StringUTF16" "LO_BYTE_SHIFT" "I" (.int (8 : Int32))) (g_a1 : n0 ≤ a1) (V_a1 : Arv Z h0 a1 k .byte z vs (.int (0 : Int32))) (hz : z.toNatClampNeg = vs.length) (hi : 2 * i + 1 < vs.length) (hl : vs.length < 10000) :
    MF l y31_ jdk_52_method_4_code 3 none ws (rM 0 0 0 0) #[(.ref a1), (.int (Int32.ofNat i)), (.int p3)] Z h0 (Q_rm_putChar Z a1 i p3 k z vs h0 n0) := by
  refine own_bodyF n0 (plainFor_of_name pnj_1) (fun m => efj_rm_putChar m a1 i p3) ?_
  intro p e s m below meth c s₁ S0 hx hby hml hZ hown hnm hret hlk X0 e0 hh N0 hK go0
  have K0 : Keep h0 h0 [a1] := Keep.refl h0 [a1]
  have hs := own_shl (n := i) (by omega)
  have j1 : (Int32.ofNat i <<< ((1 : Int32) &&& 31)).toNatClampNeg = 2 * i := by rw [hs]; exact oC (by omega)
  have n1 : ¬ (Int32.ofNat i <<< ((1 : Int32) &&& 31)) < (0 : Int32) := by rw [hs]; exact oN (by omega)
  have j2 : ((Int32.ofNat i <<< ((1 : Int32) &&& 31)) + (1 : Int32)).toNatClampNeg = 2 * i + 1 := by rw [hs, own_one]; exact oC (by omega)
  have n2 : ¬ ((Int32.ofNat i <<< ((1 : Int32) &&& 31)) + (1 : Int32)) < (0 : Int32) := by rw [hs, own_one]; exact oN (by omega)
  obtain ⟨T1, X1, e1, st1⟩ := getS2 X0 hx hZ hown (host := "") (Or.inl (wi hw 291 rfl)) Via.refl e0 S_AD (g := (mkF m 0 #[.val (.ref a1), .val (.int (Int32.ofNat i)), .val (.int p3)] [])) rfl (hb hby d1_0)
  have go2 : Go p e below T1 (mkF m 3 #[.val (.ref a1), .val (.int (Int32.ofNat i)), .val (.int p3)] [(.int (1 : Int32))]) S0 := fun t kt => go0 t (st1 _ kt)
  have go3 : Go p e below T1 (mkF m 38 #[.val (.ref a1), .val (.int (((Int32.ofNat i) <<< ((1 : Int32) &&& 31)) + (1 : Int32))), .val (.int p3)] [(.int p3), (.int ((Int32.ofNat i) <<< ((1 : Int32) &&& 31))), (.ref a1)]) S0 := by
    intro tt kt
    refine go2 tt ?_
    refine XS.ifYes X1.here hx rfl (pc0 := 3) (pc' := 28) rfl (hb hby d1_3) rfl ((if0 _ _).trans (feq (by decide)).2) (by decide) (by decide) ?_
    refine XS.iloadN X1.here hx rfl (hb hby d1_28) rfl ?_
    refine XS.iconst X1.here hx rfl (hb hby d1_29) ?_
    refine XS.ishl X1.here hx rfl (hb hby d1_30) rfl ?_
    refine XS.istoreN X1.here hx rfl (hb hby d1_31) rfl (l' := #[.val (.ref a1), .val (.int ((Int32.ofNat i) <<< ((1 : Int32) &&& 31))), .val (.int p3)]) rfl ?_
    refine XS.aloadN X1.here hx rfl (hb hby d1_32) rfl rfl ?_
    refine XS.iloadN X1.here hx rfl (hb hby d1_33) rfl ?_
    refine XS.iinc X1.here hx rfl (hb hby d1_34) rfl (l' := #[.val (.ref a1), .val (.int (((Int32.ofNat i) <<< ((1 : Int32) &&& 31)) + (1 : Int32))), .val (.int p3)]) rfl ?_
    refine XS.iloadN X1.here hx rfl (hb hby d1_37) rfl ?_
    exact kt
  obtain ⟨T4, X4, e4, st4⟩ := getS2 X1 hx hZ hown (host := "") (Or.inl (wi hw 292 rfl)) Via.refl e1 S_HI (g := (mkF m 38 #[.val (.ref a1), .val (.int (((Int32.ofNat i) <<< ((1 : Int32) &&& 31)) + (1 : Int32))), .val (.int p3)] [(.int p3), (.int ((Int32.ofNat i) <<< ((1 : Int32) &&& 31))), (.ref a1)])) rfl (hb hby d1_38)
  have go5 : Go p e below T4 (mkF m 41 #[.val (.ref a1), .val (.int (((Int32.ofNat i) <<< ((1 : Int32) &&& 31)) + (1 : Int32))), .val (.int p3)] [(.int (0 : Int32)), (.int p3), (.int ((Int32.ofNat i) <<< ((1 : Int32) &&& 31))), (.ref a1)]) S0 := fun t kt => go3 t (st4 _ kt)
  have go6 : Go p e below T4 (mkF m 43 #[.val (.ref a1), .val (.int (((Int32.ofNat i) <<< ((1 : Int32) &&& 31)) + (1 : Int32))), .val (.int p3)] [(.int ((p3 >>> ((0 : Int32) &&& 31)).toInt8.toInt32)), (.int ((Int32.ofNat i) <<< ((1 : Int32) &&& 31))), (.ref a1)]) S0 := by
    intro tt kt
    refine go5 tt ?_
    refine XS.ishr X4.here hx rfl (hb hby d1_41) rfl ?_
    refine XS.i2b X4.here hx rfl (hb hby d1_42) rfl ?_
    exact kt
  obtain ⟨cl7, Ar7, q7, S7, N7, H7, G7⟩ := V_a1
  obtain ⟨T7, h7, X7, e7, W7, st7⟩ := stB X4 hx hZ e4 Ar7 (j := ((Int32.ofNat i) <<< ((1 : Int32) &&& 31))) (fun q => q.elim n1 fun q => by rw [S7, hz, j1] at q; omega) (g := (mkF m 43 #[.val (.ref a1), .val (.int (((Int32.ofNat i) <<< ((1 : Int32) &&& 31)) + (1 : Int32))), .val (.int p3)] [(.int ((p3 >>> ((0 : Int32) &&& 31)).toInt8.toInt32)), (.int ((Int32.ofNat i) <<< ((1 : Int32) &&& 31))), (.ref a1)])) rfl rfl (hb hby d1_43)
  have S_AD := S_AD.wr W7
  have S_HI := S_HI.wr W7
  have S_LO := S_LO.wr W7
  have V_a1 := Arv.set Ar7 q7 S7 N7 H7 G7 (fits_nar_byte _) W7 (2 * i) j1 (by first | omega | (simp only [List.length_set]; omega))
  have Z0 := Nat.le_trans Z0 (Keep.of_wr W7).1
  have K0 := K0.wr W7 (Or.inl (List.mem_of_getElem? (i := 0) rfl))
  have N7r := Fr.snoc X7 N0 g_a1
  have go8 : Go p e below T7 (mkF m 44 #[.val (.ref a1), .val (.int (((Int32.ofNat i) <<< ((1 : Int32) &&& 31)) + (1 : Int32))), .val (.int p3)] []) S0 := fun t kt => go6 t (st7 _ kt)
  have go9 : Go p e below T7 (mkF m 47 #[.val (.ref a1), .val (.int (((Int32.ofNat i) <<< ((1 : Int32) &&& 31)) + (1 : Int32))), .val (.int p3)] [(.int p3), (.int (((Int32.ofNat i) <<< ((1 : Int32) &&& 31)) + (1 : Int32))), (.ref a1)]) S0 := by
    intro tt kt
    refine go8 tt ?_
    refine XS.aloadN X7.here hx rfl (hb hby d1_44) rfl rfl ?_
    refine XS.iloadN X7.here hx rfl (hb hby d1_45) rfl ?_
    refine XS.iloadN X7.here hx rfl (hb hby d1_46) rfl ?_
    exact kt
  obtain ⟨T10, X10, e10, st10⟩ := getS2 X7 hx hZ hown (host := "") (Or.inl (wi hw 293 rfl)) Via.refl e7 S_LO (g := (mkF m 47 #[.val (.ref a1), .val (.int (((Int32.ofNat i) <<< ((1 : Int32) &&& 31)) + (1 : Int32))), .val (.int p3)] [(.int p3), (.int (((Int32.ofNat i) <<< ((1 : Int32) &&& 31)) + (1 : Int32))), (.ref a1)])) rfl (hb hby d1_47)
  have go11 : Go p e below T10 (mkF m 50 #[.val (.ref a1), .val (.int (((Int32.ofNat i) <<< ((1 : Int32) &&& 31)) + (1 : Int32))), .val (.int p3)] [(.int (8 : Int32)), (.int p3), (.int (((Int32.ofNat i) <<< ((1 : Int32) &&& 31)) + (1 : Int32))), (.ref a1)]) S0 := fun t kt => go9 t (st10 _ kt)
  have go12 : Go p e below T10 (mkF m 52 #[.val (.ref a1), .val (.int (((Int32.ofNat i) <<< ((1 : Int32) &&& 31)) + (1 : Int32))), .val (.int p3)] [(.int ((p3 >>> ((8 : Int32) &&& 31)).toInt8.toInt32)), (.int (((Int32.ofNat i) <<< ((1 : Int32) &&& 31)) + (1 : Int32))), (.ref a1)]) S0 := by
    intro tt kt
    refine go11 tt ?_
    refine XS.ishr X10.here hx rfl (hb hby d1_50) rfl ?_
    refine XS.i2b X10.here hx rfl (hb hby d1_51) rfl ?_
    exact kt
  obtain ⟨cl13, Ar13, q13, S13, N13, H13, G13⟩ := V_a1
  obtain ⟨T13, h13, X13, e13, W13, st13⟩ := stB X10 hx hZ e10 Ar13 (j := (((Int32.ofNat i) <<< ((1 : Int32) &&& 31)) + (1 : Int32))) (fun q => q.elim n2 fun q => by rw [S13, hz, j2] at q; omega) (g := (mkF m 52 #[.val (.ref a1), .val (.int (((Int32.ofNat i) <<< ((1 : Int32) &&& 31)) + (1 : Int32))), .val (.int p3)] [(.int ((p3 >>> ((8 : Int32) &&& 31)).toInt8.toInt32)), (.int (((Int32.ofNat i) <<< ((1 : Int32) &&& 31)) + (1 : Int32))), (.ref a1)])) rfl rfl (hb hby d1_52)
  have S_AD := S_AD.wr W13
  have S_HI := S_HI.wr W13
  have S_LO := S_LO.wr W13
  have V_a1 := Arv.set Ar13 q13 S13 N13 H13 G13 (fits_nar_byte _) W13 (2 * i + 1) j2 (by first | omega | (simp only [List.length_set]; omega))
  have Z0 := Nat.le_trans Z0 (Keep.of_wr W13).1
  have K0 := K0.wr W13 (Or.inl (List.mem_of_getElem? (i := 0) rfl))
  have N13r := Fr.snoc X13 N7r g_a1
  have go14 : Go p e below T13 (mkF m 53 #[.val (.ref a1), .val (.int (((Int32.ofNat i) <<< ((1 : Int32) &&& 31)) + (1 : Int32))), .val (.int p3)] []) S0 := fun t kt => go12 t (st13 _ kt)
  exact own_leaveV X13 hx hret hlk (hb hby d1_53) go14 e13 (⟨rfl, N13r, K0, V_a1⟩) (by decide) (by decide)
def own_gc (b0 b1 : Int32) : Int32 := nar .char ((((b0 &&& (255 : Int32)) <<< ((0 : Int32) &&& 31)) ||| ((b1 &&& (255 : Int32)) <<< ((8 : Int32) &&& 31))).toUInt32.toUInt16.toUInt32.toInt32)
theorem pnj_2 : plainName "java/lang/StringUTF16" = true := by first | (simp [plainName, overriddenIn]; done) | decide +kernel
theorem efj_rm_getChar (m : MethodId) (a1 : Addr) (i : Nat) : entryFrame m #[(.ref a1), (.int (Int32.ofNat i))] 2 = mkF m 0 #[.val (.ref a1), .val (.int (Int32.ofNat i))] [] := by first | (simp [entryFrame, mkF, argsToLocals, Value.category]; done) | rfl
theorem d2_0 : Dc c27 0 (.getstatic 44) 3 := by decide +kernel
theorem d2_3 : Dc c27 3 (.ifCond .ne 25) 3 := by decide +kernel
theorem d2_28 : Dc c27 28 (.iload_n 1) 1 := by decide +kernel
theorem d2_29 : Dc c27 29 (.iconst 1) 1 := by decide +kernel
theorem d2_30 : Dc c27 30 (.ishl) 1 := by decide +kernel
theorem d2_31 : Dc c27 31 (.istore_n 1) 1 := by decide +kernel
theorem d2_32 : Dc c27 32 (.aload_n 0) 1 := by decide +kernel
theorem d2_33 : Dc c27 33 (.iload_n 1) 1 := by decide +kernel
theorem d2_34 : Dc c27 34 (.iinc 1 1) 3 := by decide +kernel
theorem d2_37 : Dc c27 37 (.baload) 1 := by decide +kernel
theorem d2_38 : Dc c27 38 (.sipush 255) 3 := by decide +kernel
theorem d2_41 : Dc c27 41 (.iand) 1 := by decide +kernel
theorem d2_42 : Dc c27 42 (.getstatic 59) 3 := by decide +kernel
theorem d2_45 : Dc c27 45 (.ishl) 1 := by decide +kernel
theorem d2_46 : Dc c27 46 (.aload_n 0) 1 := by decide +kernel
theorem d2_47 : Dc c27 47 (.iload_n 1) 1 := by decide +kernel
theorem d2_48 : Dc c27 48 (.baload) 1 := by decide +kernel
theorem d2_49 : Dc c27 49 (.sipush 255) 3 := by decide +kernel
theorem d2_52 : Dc c27 52 (.iand) 1 := by decide +kernel
theorem d2_53 : Dc c27 53 (.getstatic 63) 3 := by decide +kernel
theorem d2_56 : Dc c27 56 (.ishl) 1 := by decide +kernel
theorem d2_57 : Dc c27 57 (.ior) 1 := by decide +kernel
theorem d2_58 : Dc c27 58 (.i2c) 1 := by decide +kernel
theorem d2_59 : Dc c27 59 (.ireturn) 1 := by decide +kernel
def Q_rm_getChar (Z : State) (a1 : Addr) (i : Nat) (k : ClassId) (z : Int32) (vs : List Value) (b0 : Int32) (b1 : Int32) (h0 : Heap) (n0 : Nat) (v : Option Value) (h : Heap) (L : List Loc) : Prop := v = some (.int (own_gc b0 b1)) ∧ Fr n0 L ∧ h = h0
theorem rm_getChar (l : Launch) (Z : State) (a0 : Array Value) (hw : Hw a0 Z) (ws : List Jvm.Cond) (a1 : Addr) (i : Nat) (k : ClassId) (z : Int32) (vs : List Value) (b0 : Int32) (b1 : Int32) (h0 : Heap) (n0 : Nat) (Z0 : n0 ≤ h0.size) (S_AD : Sta Z h0 "java/lang/StringUTF16" "$assertionsDisabled" "Z" (.int (1 : Int32))) (S_HI : Sta Z h0 "java/lang/StringUTF16" "HI_BYTE_SHIFT" "I" (.int (0 : Int32))) (S_LO : Sta Z h0 "java/lang/StringUTF16" "LO_BYTE_SHIFT" "I" (.int (8 : Int32))) (V_a1 : Arv Z h0 a1 k .byte z vs (.int (0 : Int32))) (hz : z.toNatClampNeg = vs.length) (hi : 2 * i + 1 < vs.length) (hl : vs.length < 10000) (hv0 : vs.getD (2 * i) (.int (0 : Int32)) = .int b0) (hv1 : vs.getD (2 * i + 1) (.int (0 : Int32)) = .int b1) :
    MF l y51_ jdk_52_method_5_code 2 (some .char) ws (rM 0 0 0 0) #[(.ref a1), (.int (Int32.ofNat i))] Z h0 (Q_rm_getChar Z a1 i k z vs b0 b1 h0 n0) := by
  refine own_bodyF n0 (plainFor_of_name pnj_2) (fun m => efj_rm_getChar m a1 i) ?_
  intro p e s m below meth c s₁ S0 hx hby hml hZ hown hnm hret hlk X0 e0 hh N0 hK go0
  have hs := own_shl (n := i) (by omega)
  have j1 : (Int32.ofNat i <<< ((1 : Int32) &&& 31)).toNatClampNeg = 2 * i := by rw [hs]; exact oC (by omega)
  have n1 : ¬ (Int32.ofNat i <<< ((1 : Int32) &&& 31)) < (0 : Int32) := by rw [hs]; exact oN (by omega)
  have j2 : ((Int32.ofNat i <<< ((1 : Int32) &&& 31)) + (1 : Int32)).toNatClampNeg = 2 * i + 1 := by rw [hs, own_one]; exact oC (by omega)
  have n2 : ¬ ((Int32.ofNat i <<< ((1 : Int32) &&& 31)) + (1 : Int32)) < (0 : Int32) := by rw [hs, own_one]; exact oN (by omega)
  obtain ⟨T1, X1, e1, st1⟩ := getS2 X0 hx hZ hown (host := "") (Or.inl (wi hw 291 rfl)) Via.refl e0 S_AD (g := (mkF m 0 #[.val (.ref a1), .val (.int (Int32.ofNat i))] [])) rfl (hb hby d2_0)
  have go2 : Go p e below T1 (mkF m 3 #[.val (.ref a1), .val (.int (Int32.ofNat i))] [(.int (1 : Int32))]) S0 := fun t kt => go0 t (st1 _ kt)
  have go3 : Go p e below T1 (mkF m 37 #[.val (.ref a1), .val (.int (((Int32.ofNat i) <<< ((1 : Int32) &&& 31)) + (1 : Int32)))] [(.int ((Int32.ofNat i) <<< ((1 : Int32) &&& 31))), (.ref a1)]) S0 := by
    intro tt kt
    refine go2 tt ?_
    refine XS.ifYes X1.here hx rfl (pc0 := 3) (pc' := 28) rfl (hb hby d2_3) rfl ((if0 _ _).trans (feq (by decide)).2) (by decide) (by decide) ?_
    refine XS.iloadN X1.here hx rfl (hb hby d2_28) rfl ?_
    refine XS.iconst X1.here hx rfl (hb hby d2_29) ?_
    refine XS.ishl X1.here hx rfl (hb hby d2_30) rfl ?_
    refine XS.istoreN X1.here hx rfl (hb hby d2_31) rfl (l' := #[.val (.ref a1), .val (.int ((Int32.ofNat i) <<< ((1 : Int32) &&& 31)))]) rfl ?_
    refine XS.aloadN X1.here hx rfl (hb hby d2_32) rfl rfl ?_
    refine XS.iloadN X1.here hx rfl (hb hby d2_33) rfl ?_
    refine XS.iinc X1.here hx rfl (hb hby d2_34) rfl (l' := #[.val (.ref a1), .val (.int (((Int32.ofNat i) <<< ((1 : Int32) &&& 31)) + (1 : Int32)))]) rfl ?_
    exact kt
  obtain ⟨cl4, Ar4, q4, S4, N4, H4, G4⟩ := id V_a1
  have go6 : Go p e below T1 (mkF m 42 #[.val (.ref a1), .val (.int (((Int32.ofNat i) <<< ((1 : Int32) &&& 31)) + (1 : Int32)))] [(.int (b0 &&& (255 : Int32)))]) S0 := by
    intro tt kt
    refine go3 tt ?_
    refine X1.baloadBytes hx (j := ((Int32.ofNat i) <<< ((1 : Int32) &&& 31))) (v := (.int b0)) (by rw [e1]; exact Ar4.1) (State.isArrayOf_alike hZ.alike Ar4.2.1) Ar4.2.2 (fun q => q.elim n1 fun q => by rw [S4, hz, j1] at q; omega) (by rw [j1, H4 _ (by rw [S4, hz]; omega)]; exact congrArg some hv0) (g := (mkF m 37 #[.val (.ref a1), .val (.int (((Int32.ofNat i) <<< ((1 : Int32) &&& 31)) + (1 : Int32)))] [(.int ((Int32.ofNat i) <<< ((1 : Int32) &&& 31))), (.ref a1)])) rfl rfl (hb hby d2_37) _ ?_
    refine XS.sipush X1.here hx rfl (hb hby d2_38) ?_
    refine XS.iand X1.here hx rfl (hb hby d2_41) rfl ?_
    exact kt
  obtain ⟨T7, X7, e7, st7⟩ := getS2 X1 hx hZ hown (host := "") (Or.inl (wi hw 292 rfl)) Via.refl e1 S_HI (g := (mkF m 42 #[.val (.ref a1), .val (.int (((Int32.ofNat i) <<< ((1 : Int32) &&& 31)) + (1 : Int32)))] [(.int (b0 &&& (255 : Int32)))])) rfl (hb hby d2_42)
  have go8 : Go p e below T7 (mkF m 45 #[.val (.ref a1), .val (.int (((Int32.ofNat i) <<< ((1 : Int32) &&& 31)) + (1 : Int32)))] [(.int (0 : Int32)), (.int (b0 &&& (255 : Int32)))]) S0 := fun t kt => go6 t (st7 _ kt)
  have go9 : Go p e below T7 (mkF m 48 #[.val (.ref a1), .val (.int (((Int32.ofNat i) <<< ((1 : Int32) &&& 31)) + (1 : Int32)))] [(.int (((Int32.ofNat i) <<< ((1 : Int32) &&& 31)) + (1 : Int32))), (.ref a1), (.int ((b0 &&& (255 : Int32)) <<< ((0 : Int32) &&& 31)))]) S0 := by
    intro tt kt
    refine go8 tt ?_
    refine XS.ishl X7.here hx rfl (hb hby d2_45) rfl ?_
    refine XS.aloadN X7.here hx rfl (hb hby d2_46) rfl rfl ?_
    refine XS.iloadN X7.here hx rfl (hb hby d2_47) rfl ?_
    exact kt
  obtain ⟨cl10, Ar10, q10, S10, N10, H10, G10⟩ := id V_a1
  have go12 : Go p e below T7 (mkF m 53 #[.val (.ref a1), .val (.int (((Int32.ofNat i) <<< ((1 : Int32) &&& 31)) + (1 : Int32)))] [(.int (b1 &&& (255 : Int32))), (.int ((b0 &&& (255 : Int32)) <<< ((0 : Int32) &&& 31)))]) S0 := by
    intro tt kt
    refine go9 tt ?_
    refine X7.baloadBytes hx (j := (((Int32.ofNat i) <<< ((1 : Int32) &&& 31)) + (1 : Int32))) (v := (.int b1)) (by rw [e7]; exact Ar10.1) (State.isArrayOf_alike hZ.alike Ar10.2.1) Ar10.2.2 (fun q => q.elim n2 fun q => by rw [S10, hz, j2] at q; omega) (by rw [j2, H10 _ (by rw [S10, hz]; omega)]; exact congrArg some hv1) (g := (mkF m 48 #[.val (.ref a1), .val (.int (((Int32.ofNat i) <<< ((1 : Int32) &&& 31)) + (1 : Int32)))] [(.int (((Int32.ofNat i) <<< ((1 : Int32) &&& 31)) + (1 : Int32))), (.ref a1), (.int ((b0 &&& (255 : Int32)) <<< ((0 : Int32) &&& 31)))])) rfl rfl (hb hby d2_48) _ ?_
    refine XS.sipush X7.here hx rfl (hb hby d2_49) ?_
    refine XS.iand X7.here hx rfl (hb hby d2_52) rfl ?_
    exact kt
  obtain ⟨T13, X13, e13, st13⟩ := getS2 X7 hx hZ hown (host := "") (Or.inl (wi hw 293 rfl)) Via.refl e7 S_LO (g := (mkF m 53 #[.val (.ref a1), .val (.int (((Int32.ofNat i) <<< ((1 : Int32) &&& 31)) + (1 : Int32)))] [(.int (b1 &&& (255 : Int32))), (.int ((b0 &&& (255 : Int32)) <<< ((0 : Int32) &&& 31)))])) rfl (hb hby d2_53)
  have go14 : Go p e below T13 (mkF m 56 #[.val (.ref a1), .val (.int (((Int32.ofNat i) <<< ((1 : Int32) &&& 31)) + (1 : Int32)))] [(.int (8 : Int32)), (.int (b1 &&& (255 : Int32))), (.int ((b0 &&& (255 : Int32)) <<< ((0 : Int32) &&& 31)))]) S0 := fun t kt => go12 t (st13 _ kt)
  have go15 : Go p e below T13 (mkF m 59 #[.val (.ref a1), .val (.int (((Int32.ofNat i) <<< ((1 : Int32) &&& 31)) + (1 : Int32)))] [(.int ((((b0 &&& (255 : Int32)) <<< ((0 : Int32) &&& 31)) ||| ((b1 &&& (255 : Int32)) <<< ((8 : Int32) &&& 31))).toUInt32.toUInt16.toUInt32.toInt32))]) S0 := by
    intro tt kt
    refine go14 tt ?_
    refine XS.ishl X13.here hx rfl (hb hby d2_56) rfl ?_
    refine XS.ior X13.here hx rfl (hb hby d2_57) rfl ?_
    refine XS.i2c X13.here hx rfl (hb hby d2_58) rfl ?_
    exact kt
  exact own_leaveN (t := .char) (by simp) X13 hx hret hlk (hb hby d2_59) go15 e13 (⟨rfl, N0, rfl⟩) (by decide) (by decide)
theorem pnj_3 : plainName "java/lang/StringUTF16" = true := by first | (simp [plainName, overriddenIn]; done) | decide +kernel
theorem efj_rm_nbl (m : MethodId) (n : Nat) : entryFrame m #[(.int (Int32.ofNat n))] 1 = mkF m 0 #[.val (.int (Int32.ofNat n))] [] := by first | (simp [entryFrame, mkF, argsToLocals, Value.category]; done) | rfl
theorem d3_0 : Dc c25 0 (.iload_n 0) 1 := by decide +kernel
theorem d3_1 : Dc c25 1 (.ifCond .ge 11) 3 := by decide +kernel
theorem d3_12 : Dc c25 12 (.iload_n 0) 1 := by decide +kernel
theorem d3_13 : Dc c25 13 (.ldc 20) 2 := by decide +kernel
theorem d3_15 : Dc c25 15 (.if_icmp .lt 40) 3 := by decide +kernel
theorem d3_55 : Dc c25 55 (.iload_n 0) 1 := by decide +kernel
theorem d3_56 : Dc c25 56 (.iconst 1) 1 := by decide +kernel
theorem d3_57 : Dc c25 57 (.ishl) 1 := by decide +kernel
theorem d3_58 : Dc c25 58 (.ireturn) 1 := by decide +kernel
def Q_rm_nbl (Z : State) (n : Nat) (h0 : Heap) (n0 : Nat) (v : Option Value) (h : Heap) (L : List Loc) : Prop := v = some (.int (Int32.ofNat (2 * n))) ∧ Fr n0 L ∧ h = h0
theorem rm_nbl (l : Launch) (Z : State) (a0 : Array Value) (hw : Hw a0 Z) (ws : List Jvm.Cond) (n : Nat) (h0 : Heap) (n0 : Nat) (Z0 : n0 ≤ h0.size) (hn : n < 5000) :
    MF l y35_ jdk_52_method_3_code 1 (some .int) ws (rM 0 0 0 0) #[(.int (Int32.ofNat n))] Z h0 (Q_rm_nbl Z n h0 n0) := by
  refine own_bodyF n0 (plainFor_of_name pnj_3) (fun m => efj_rm_nbl m n) ?_
  intro p e s m below meth c s₁ S0 hx hby hml hZ hown hnm hret hlk X0 e0 hh N0 hK go0
  have go1 : Go p e below s₁ (mkF m 58 #[.val (.int (Int32.ofNat n))] [(.int ((Int32.ofNat n) <<< ((1 : Int32) &&& 31)))]) S0 := by
    intro tt kt
    refine go0 tt ?_
    refine XS.iloadN X0.here hx rfl (hb hby d3_0) rfl ?_
    refine XS.ifYes X0.here hx rfl (pc0 := 1) (pc' := 12) rfl (hb hby d3_1) rfl ((if0 _ _).trans (flt (oN (by omega))).2.1) (by decide) (by decide) ?_
    refine XS.iloadN X0.here hx rfl (hb hby d3_12) rfl ?_
    refine X0.ldcInt hx hown (mvT hZ (wi hw 287 rfl)) (g := (mkF m 13 #[.val (.int (Int32.ofNat n))] [(.int (Int32.ofNat n))])) rfl (hb hby d3_13) _ ?_
    refine XS.icmpYes X0.here hx rfl (pc0 := 15) (pc' := 55) rfl (hb hby d3_15) rfl (tlt (by rw [Int32.lt_iff_toInt_lt, Int32.toInt_ofNat_of_lt (by omega)]; have : (1073741823 : Int32).toInt = 1073741823 := rfl; omega)).1 (by decide) (by decide) ?_
    refine XS.iloadN X0.here hx rfl (hb hby d3_55) rfl ?_
    refine XS.iconst X0.here hx rfl (hb hby d3_56) ?_
    refine XS.ishl X0.here hx rfl (hb hby d3_57) rfl ?_
    exact kt
  exact own_leaveI X0 hx hret hlk (hb hby d3_58) go1 e0 (⟨by rw [own_shl (by omega)], N0, rfl⟩) (by decide) (by decide)
theorem pnj_4 : plainName "java/lang/StringUTF16" = true := by first | (simp [plainName, overriddenIn]; done) | decide +kernel
theorem efj_rm_nbf (m : MethodId) (n : Nat) : entryFrame m #[(.int (Int32.ofNat n))] 1 = mkF m 0 #[.val (.int (Int32.ofNat n))] [] := by first | (simp [entryFrame, mkF, argsToLocals, Value.category]; done) | rfl
theorem d4_0 : Dc c24 0 (.iload_n 0) 1 := by decide +kernel
theorem pd34_ : parseMethodDescriptor "(I)I" = some ⟨[.int], some .int⟩ := by decide +kernel
theorem d4_1 : Dc c24 1 (.invokestatic 11) 3 := by decide +kernel
theorem d4_4 : Dc c24 4 (.newarray .byte) 2 := by decide +kernel
theorem d4_6 : Dc c24 6 (.areturn) 1 := by decide +kernel
def Q_rm_nbf (Z : State) (n : Nat) (h0 : Heap) (n0 : Nat) (v : Option Value) (h : Heap) (L : List Loc) : Prop := ∃ (b : Addr) (k : ClassId), v = some (.ref b) ∧ Fr n0 L ∧ Ext h0 h ∧ n0 ≤ b ∧ h0.size ≤ b ∧ Arv Z h b k .byte (Int32.ofNat (2 * n)) (List.replicate (2 * n) (.int (0 : Int32))) (.int (0 : Int32))
theorem rm_nbf (l : Launch) (Z : State) (a0 : Array Value) (hw : Hw a0 Z) (ws : List Jvm.Cond) (n : Nat) (h0 : Heap) (n0 : Nat) (Z0 : n0 ≤ h0.size) (hn : n ≤ 34) :
    MF l y32_ jdk_52_method_2_code 1 (some (.array .byte)) ws (rM 1 1 68 12) #[(.int (Int32.ofNat n))] Z h0 (Q_rm_nbf Z n h0 n0) := by
  refine own_bodyF n0 (plainFor_of_name pnj_4) (fun m => efj_rm_nbf m n) ?_
  intro p e s m below meth c s₁ S0 hx hby hml hZ hown hnm hret hlk X0 e0 hh N0 hK go0
  have K0 : Keep h0 h0 [] := Keep.refl h0 []
  have go1 : Go p e below s₁ (mkF m 1 #[.val (.int (Int32.ofNat n))] [(.int (Int32.ofNat n))]) S0 := by
    intro tt kt
    refine go0 tt ?_
    refine XS.iloadN X0.here hx rfl (hb hby d4_0) rfl ?_
    exact kt
  obtain ⟨_, _, ⟨T2, L2, k2, n2⟩, -, X2, ⟨Lc2, hQ2, l2, y2, z2⟩, st2⟩ := Jvm.LawKit.callS X0 hx (y := y35_) hown (mvT hZ (wi hw 284 rfl)) (mvT hZ (wi hw 285 rfl)) (mvT hZ (wi hw 49 rfl)) (mvT hZ (wi hw 286 rfl)) (by decide) (backOf (W := 0) (rm_nbl l Z a0 hw [] n h0 n0 Z0 (by omega)) hZ (wi hw 286 rfl) (wi hw 49 rfl) (by decide) (by decide)) (g := (mkF m 1 #[.val (.int (Int32.ofNat n))] [(.int (Int32.ofNat n))])) rfl (by rw [hml]; rfl) (argsL := [(.int (Int32.ofNat n))]) (rest := []) (lenOf pd34_ rfl) rfl (by show 2 * 0 + _ ≤ _; exact Nat.le_of_eq rfl) (hb hby d4_1) (fun _ _ => ⟨rfl, e0, (by decide : 0 + 0 ≤ _), (by decide : 0 + 0 ≤ _)⟩)
  dsimp only [Pt.U, Pt.locs, Pt.cells, Pt.slots] at X2 l2 y2 z2 st2 hQ2
  subst l2 y2 z2
  obtain ⟨rfl, N2q, g2⟩ := hQ2
  have K0 := own_ks g2 K0
  rw [← g2] at Z0
  have N2 := Fr.app N0 N2q
  have go3 : Go p e below T2 (mkF m 4 #[.val (.int (Int32.ofNat n))] [(.int (Int32.ofNat (2 * n)))]) S0 := fun t kt => go1 t (st2 _ kt)
  obtain ⟨T4, h4, k4, X4, e4, E4, A4, st4⟩ := newP X2 hx hZ (wi hw 16 rfl) rfl (g := (mkF m 4 #[.val (.int (Int32.ofNat n))] [(.int (Int32.ofNat (2 * n)))])) rfl (hb hby d4_4) rfl (oN (by omega)) (cap := 68) (by rw [oC (by omega)]; exact (by omega)) (by decide) (by decide) (by decide)
  obtain ⟨b, g4⟩ : ∃ z, z = T2.heap.size := ⟨_, rfl⟩
  rw [← g4] at A4 st4
  have g_b : n0 ≤ b := Nat.le_trans Z0 (Nat.le_of_eq g4.symm)
  have sz_b : h0.size ≤ b := Nat.le_trans K0.1 (Nat.le_of_eq g4.symm)
  have Z0 := Nat.le_trans Z0 E4.1
  have K0 := K0.ext E4
  have go5 : Go p e below T4 (mkF m 6 #[.val (.int (Int32.ofNat n))] [(.ref b)]) S0 := fun t kt => go3 t (st4 _ kt)
  have V_b : Arv Z h4 b k4 .byte (Int32.ofNat (2 * n)) (List.replicate (2 * n) (.int (0 : Int32))) (.int (0 : Int32)) := (Arv.new A4 (oN (by omega))).pad (pad_rep [] (.int (0 : Int32)) (2 * n))
  exact own_leaveA X4 hx hret hlk (hb hby d4_6) go5 e4 (⟨b, k4, rfl, N2, oE K0, g_b, sz_b, V_b⟩) (by decide) (by decide)
theorem oO {H h h' : Heap} {ws : List Addr} {n0 : Nat} (O : Ext H h) (K : Keep h h' ws) (hn : H.size ≤ n0) (q : ∀ x ∈ ws, n0 ≤ x) : Ext H h' :=
  ⟨Nat.le_trans O.1 K.1, fun a c hc => K.2.1 a c (O.2 a c hc) fun z => absurd (Array.getElem?_eq_some_iff.mp hc).1 (Nat.not_lt.mpr (Nat.le_trans hn (q a z)))⟩
def own_put (vs : List Value) (i : Nat) (c : Int32) : List Value := (vs.set (2 * i) (.int (own_hi c))).set (2 * i + 1) (.int (own_lo c))
def own_puts (cs : List Int32) : Nat → Nat → List Value → List Value
  | _, 0, vs => vs
  | j, d + 1, vs => own_puts cs (j + 1) d (own_put vs j (cs.getD j 0))
theorem own_getD (cs : List Int32) (j : Nat) (h : j < cs.length) : (cs.map Value.int).getD j (.int (0 : Int32)) = .int (cs.getD j 0) := by simp [List.getD_eq_getElem?_getD, h]
theorem own_ltN {i n : Nat} (h : i < n) (hn : n < 2 ^ 31) : Int32.ofNat i < Int32.ofNat n := by rw [Int32.lt_iff_toInt_lt, Int32.toInt_ofNat_of_lt (by omega), Int32.toInt_ofNat_of_lt hn]; omega
theorem own_nltN {i n : Nat} (h : n ≤ i) (hn : i < 2 ^ 31) : ¬ Int32.ofNat i < Int32.ofNat n := by rw [Int32.lt_iff_toInt_lt, Int32.toInt_ofNat_of_lt hn, Int32.toInt_ofNat_of_lt (show n < 2 ^ 31 by omega)]; omega
theorem d5_8 : Dc c20 8 (.iload 4) 2 := by decide +kernel
theorem d5_10 : Dc c20 10 (.iload_n 2) 1 := by decide +kernel
theorem d5_11 : Dc c20 11 (.if_icmp .ge 21) 3 := by decide +kernel
theorem d5_14 : Dc c20 14 (.aload_n 3) 1 := by decide +kernel
theorem d5_15 : Dc c20 15 (.iload 4) 2 := by decide +kernel
theorem d5_17 : Dc c20 17 (.aload_n 0) 1 := by decide +kernel
theorem d5_18 : Dc c20 18 (.iload_n 1) 1 := by decide +kernel
theorem d5_19 : Dc c20 19 (.caload) 1 := by decide +kernel
theorem pd18_ : parseMethodDescriptor "([BII)V" = some ⟨[(.array .byte), .int, .int], none⟩ := by decide +kernel
theorem d5_20 : Dc c20 20 (.invokestatic 111) 3 := by decide +kernel
theorem d5_23 : Dc c20 23 (.iinc 1 1) 3 := by decide +kernel
theorem d5_26 : Dc c20 26 (.iinc 4 1) 3 := by decide +kernel
theorem d5_29 : Dc c20 29 (.goto (-21)) 3 := by decide +kernel
set_option maxRecDepth 65536 in
set_option maxHeartbeats 40000000 in
theorem own_loopTB {p : Program} {l : Launch} {e : Env} {s : State} {m : MethodId} {args : Array Value} {below : List Frame} {meth : Method} {c : Code} {Z : State} {a0 : Array Value} {n0 n : Nat} {a1 b : Addr} {k1 kb : ClassId} {cs : List Int32} (hw : ∀ d ∈ tables_1, d.before a0 Z = true) (hx : p.tables.exec = Jvm.exec) (hZ : Z.Warmed39 s.vm) (hown : s.vm.findClass "java/lang/StringUTF16" = some m.cls) (hby : c.code = jdk_52_method_14_code) (hml : c.maxLocals = 5) (hn : n = cs.length) (hn11 : n ≤ 21) (g_b : n0 ≤ b) (ne_a1_b : a1 ≠ b) (hn0 : Z.heap.size ≤ n0) (S_AD : Sta Z Z.heap "java/lang/StringUTF16" "$assertionsDisabled" "Z" (.int (1 : Int32))) (S_HI : Sta Z Z.heap "java/lang/StringUTF16" "HI_BYTE_SHIFT" "I" (.int (0 : Int32))) (S_LO : Sta Z Z.heap "java/lang/StringUTF16" "LO_BYTE_SHIFT" "I" (.int (8 : Int32))) :
    ∀ (d j : Nat), j + d = n → ∀ (T0 : State) (h0 : Heap) (locs : List Loc) (vs : List Value), Stand p l e ({ frames := 2, cells := 1, slots := 68, locals := 36 } : Room) s m args below meth c T0 locs 1 68 → T0.heap = h0 → n0 ≤ h0.size → Ext Z.heap h0 → Arv Z h0 a1 k1 .char (Int32.ofNat n) (cs.map Value.int) (.int (0 : Int32)) → Arv Z h0 b kb .byte (Int32.ofNat (2 * n)) vs (.int (0 : Int32)) → vs.length = 2 * n → Fr n0 locs →
      ∃ (T1 : State) (h1 : Heap) (locs1 : List Loc), Stand p l e ({ frames := 2, cells := 1, slots := 68, locals := 36 } : Room) s m args below meth c T1 locs1 1 68 ∧ T1.heap = h1 ∧ Fr n0 locs1 ∧ Keep h0 h1 [b] ∧ Arv Z h1 b kb .byte (Int32.ofNat (2 * n)) (own_puts cs j d vs) (.int (0 : Int32)) ∧ ∀ t, Steps p.tables e below (T1.setTop (mkF m 32 #[.val (.ref a1), .val (.int (Int32.ofNat n)), .val (.int (Int32.ofNat n)), .val (.ref b), .val (.int (Int32.ofNat n))] [])) t → Steps p.tables e below (T0.setTop (mkF m 8 #[.val (.ref a1), .val (.int (Int32.ofNat j)), .val (.int (Int32.ofNat n)), .val (.ref b), .val (.int (Int32.ofNat j))] [])) t := by
  intro d
  induction d with
  | zero =>
    intro j hj T0 h0 locs vs X0 e0 Z0 O0 V_a1 V_b hvl N0
    obtain rfl : j = n := by omega
    have go0 : Go p e below T0 (mkF m 8 #[.val (.ref a1), .val (.int (Int32.ofNat j)), .val (.int (Int32.ofNat j)), .val (.ref b), .val (.int (Int32.ofNat j))] []) (T0.setTop (mkF m 8 #[.val (.ref a1), .val (.int (Int32.ofNat j)), .val (.int (Int32.ofNat j)), .val (.ref b), .val (.int (Int32.ofNat j))] [])) := fun t k => k
    generalize (T0.setTop (mkF m 8 #[.val (.ref a1), .val (.int (Int32.ofNat j)), .val (.int (Int32.ofNat j)), .val (.ref b), .val (.int (Int32.ofNat j))] [])) = S0 at go0 ⊢
    have go1 : Go p e below T0 (mkF m 32 #[.val (.ref a1), .val (.int (Int32.ofNat j)), .val (.int (Int32.ofNat j)), .val (.ref b), .val (.int (Int32.ofNat j))] []) S0 := by
      intro tt kt
      refine go0 tt ?_
      refine XS.iload X0.here hx rfl (hb hby d5_8) rfl ?_
      refine XS.iloadN X0.here hx rfl (hb hby d5_10) rfl ?_
      refine XS.icmpYes X0.here hx rfl (pc0 := 11) (pc' := 32) rfl (hb hby d5_11) rfl (flt (own_nltN (Nat.le_refl _) (by omega))).2.1 (by decide) (by decide) ?_
      exact kt
    exact ⟨T0, h0, locs, X0, e0, N0, Keep.refl _ _, V_b, go1⟩
  | succ d ih =>
    intro j hj T0 h0 locs vs X0 e0 Z0 O0 V_a1 V_b hvl N0
    have K0 : Keep h0 h0 [b] := Keep.refl h0 [b]
    have hz : (Int32.ofNat (2 * n)).toNatClampNeg = vs.length := by rw [oC (by omega), hvl]
    have go0 : Go p e below T0 (mkF m 8 #[.val (.ref a1), .val (.int (Int32.ofNat j)), .val (.int (Int32.ofNat n)), .val (.ref b), .val (.int (Int32.ofNat j))] []) (T0.setTop (mkF m 8 #[.val (.ref a1), .val (.int (Int32.ofNat j)), .val (.int (Int32.ofNat n)), .val (.ref b), .val (.int (Int32.ofNat j))] [])) := fun t k => k
    generalize (T0.setTop (mkF m 8 #[.val (.ref a1), .val (.int (Int32.ofNat j)), .val (.int (Int32.ofNat n)), .val (.ref b), .val (.int (Int32.ofNat j))] [])) = S0 at go0 ⊢
    have go2 : Go p e below T0 (mkF m 19 #[.val (.ref a1), .val (.int (Int32.ofNat j)), .val (.int (Int32.ofNat n)), .val (.ref b), .val (.int (Int32.ofNat j))] [(.int (Int32.ofNat j)), (.ref a1), (.int (Int32.ofNat j)), (.ref b)]) S0 := by
      intro tt kt
      refine go0 tt ?_
      refine XS.iload X0.here hx rfl (hb hby d5_8) rfl ?_
      refine XS.iloadN X0.here hx rfl (hb hby d5_10) rfl ?_
      refine XS.icmpNo X0.here hx rfl (hb hby d5_11) rfl (tlt (own_ltN (by omega) (by omega))).2.1 ?_
      refine XS.aloadN X0.here hx rfl (hb hby d5_14) rfl rfl ?_
      refine XS.iload X0.here hx rfl (hb hby d5_15) rfl ?_
      refine XS.aloadN X0.here hx rfl (hb hby d5_17) rfl rfl ?_
      refine XS.iloadN X0.here hx rfl (hb hby d5_18) rfl ?_
      exact kt
    obtain ⟨cl3, Ar3, q3, S3, N3, H3, G3⟩ := id V_a1
    have go4 : Go p e below T0 (mkF m 20 #[.val (.ref a1), .val (.int (Int32.ofNat j)), .val (.int (Int32.ofNat n)), .val (.ref b), .val (.int (Int32.ofNat j))] [(.int (cs.getD j 0)), (.int (Int32.ofNat j)), (.ref b)]) S0 := by
      intro tt kt
      refine go2 tt ?_
      refine X0.caload hx (j := Int32.ofNat j) (v := .int (cs.getD j 0)) (by rw [e0]; exact Ar3.1) (State.isArrayOf_alike hZ.alike Ar3.2.1) Ar3.2.2 (fun q => q.elim (oN (by omega)) fun q => by rw [S3, oC (by omega), oC (by omega)] at q; omega) (by rw [oC (by omega), H3 _ (by rw [S3, oC (by omega)]; omega)]; exact congrArg some (own_getD cs j (by omega))) (g := (mkF m 19 #[.val (.ref a1), .val (.int (Int32.ofNat j)), .val (.int (Int32.ofNat n)), .val (.ref b), .val (.int (Int32.ofNat j))] [(.int (Int32.ofNat j)), (.ref a1), (.int (Int32.ofNat j)), (.ref b)])) rfl rfl (hb hby d5_19) _ ?_
      exact kt
    obtain ⟨_, _, ⟨T5, L5, k5, n5⟩, -, X5, ⟨Lc5, hQ5, l5, y5, z5⟩, st5⟩ := Jvm.LawKit.callS X0 hx (y := y31_) hown (mvT hZ (wi hw 288 rfl)) (mvT hZ (wi hw 289 rfl)) (mvT hZ (wi hw 49 rfl)) (mvT hZ (wi hw 290 rfl)) (by decide) (backOf (W := 0) (rm_putChar l Z a0 hw [] b j (cs.getD j 0) kb (Int32.ofNat (2 * n)) vs h0 n0 Z0 (S_AD.ext O0) (S_HI.ext O0) (S_LO.ext O0) g_b V_b hz (by omega) (by omega)) hZ (wi hw 290 rfl) (wi hw 49 rfl) (by decide) (by decide)) (g := (mkF m 20 #[.val (.ref a1), .val (.int (Int32.ofNat j)), .val (.int (Int32.ofNat n)), .val (.ref b), .val (.int (Int32.ofNat j))] [(.int (cs.getD j 0)), (.int (Int32.ofNat j)), (.ref b)])) rfl (by rw [hml]; rfl) (argsL := [(.ref b), (.int (Int32.ofNat j)), (.int (cs.getD j 0))]) (rest := []) (lenOf pd18_ rfl) rfl (by show 2 * 0 + _ ≤ _; exact Nat.le_of_eq rfl) (hb hby d5_20) (fun _ _ => ⟨rfl, e0, (by decide : 1 + 0 ≤ _), (by decide : 68 + 0 ≤ _)⟩)
    dsimp only [Pt.U, Pt.locs, Pt.cells, Pt.slots] at X5 l5 y5 z5 st5 hQ5
    subst l5 y5 z5
    obtain ⟨rfl, N5q, K5, V5⟩ := hQ5
    have Z0 := Nat.le_trans Z0 K5.1
    have O0 := oO O0 K5 hn0 (allS g_b all0)
    have V_a1 := V_a1.keep K5 (ninS ne_a1_b nin0)
    have N5 := Fr.app N0 N5q
    have go6 : Go p e below T5 (mkF m 23 #[.val (.ref a1), .val (.int (Int32.ofNat j)), .val (.int (Int32.ofNat n)), .val (.ref b), .val (.int (Int32.ofNat j))] []) S0 := fun t kt => go4 t (st5 _ kt)
    have go7 : Go p e below T5 (mkF m 8 #[.val (.ref a1), .val (.int ((Int32.ofNat j) + (1 : Int32))), .val (.int (Int32.ofNat n)), .val (.ref b), .val (.int ((Int32.ofNat j) + (1 : Int32)))] []) S0 := by
      intro tt kt
      refine go6 tt ?_
      refine XS.iinc X5.here hx rfl (hb hby d5_23) rfl (l' := #[.val (.ref a1), .val (.int ((Int32.ofNat j) + (1 : Int32))), .val (.int (Int32.ofNat n)), .val (.ref b), .val (.int (Int32.ofNat j))]) rfl ?_
      refine XS.iinc X5.here hx rfl (hb hby d5_26) rfl (l' := #[.val (.ref a1), .val (.int ((Int32.ofNat j) + (1 : Int32))), .val (.int (Int32.ofNat n)), .val (.ref b), .val (.int ((Int32.ofNat j) + (1 : Int32)))]) rfl ?_
      refine XS.goto X5.here hx rfl (pc0 := 29) (pc' := 8) rfl (hb hby d5_29) (by decide) (by decide) ?_
      exact kt
    have go8 : Go p e below T5 (mkF m 8 #[.val (.ref a1), .val (.int (Int32.ofNat (j + 1))), .val (.int (Int32.ofNat n)), .val (.ref b), .val (.int (Int32.ofNat (j + 1)))] []) S0 := by rw [← own_one]; exact go7
    obtain ⟨T1, h1, locs1, X1, e1, N1, K1, V1, st1⟩ := ih (j + 1) (by omega) T5 T5.heap _ _ X5 rfl Z0 O0 V_a1 V5 (by simp only [List.length_set]; exact hvl) N5
    exact ⟨T1, h1, locs1, X1, e1, N1, K5.trans K1 (allS (Or.inl (List.mem_singleton.mpr rfl)) all0), V1, fun t kt => go8 t (st1 t kt)⟩
theorem pnj_5 : plainName "java/lang/StringUTF16" = true := by first | (simp [plainName, overriddenIn]; done) | decide +kernel
theorem efj_rm_toBytes16 (m : MethodId) (a1 : Addr) (n : Nat) : entryFrame m #[(.ref a1), (.int (0 : Int32)), (.int (Int32.ofNat n))] 5 = mkF m 0 #[.val (.ref a1), .val (.int (0 : Int32)), .val (.int (Int32.ofNat n)), .unset, .unset] [] := by first | (simp [entryFrame, mkF, argsToLocals, Value.category]; done) | rfl
theorem d5_0 : Dc c20 0 (.iload_n 2) 1 := by decide +kernel
theorem pd29_ : parseMethodDescriptor "(I)[B" = some ⟨[.int], some (.array .byte)⟩ := by decide +kernel
theorem d5_1 : Dc c20 1 (.invokestatic 107) 3 := by decide +kernel
theorem d5_4 : Dc c20 4 (.astore_n 3) 1 := by decide +kernel
theorem d5_5 : Dc c20 5 (.iconst 0) 1 := by decide +kernel
theorem d5_6 : Dc c20 6 (.istore 4) 2 := by decide +kernel
theorem d5_32 : Dc c20 32 (.aload_n 3) 1 := by decide +kernel
theorem d5_33 : Dc c20 33 (.areturn) 1 := by decide +kernel
def Q_rm_toBytes16 (Z : State) (a1 : Addr) (n : Nat) (k1 : ClassId) (cs : List Int32) (h0 : Heap) (n0 : Nat) (v : Option Value) (h : Heap) (L : List Loc) : Prop := ∃ (b : Addr) (k : ClassId), v = some (.ref b) ∧ Fr n0 L ∧ Ext h0 h ∧ n0 ≤ b ∧ h0.size ≤ b ∧ Arv Z h b k .byte (Int32.ofNat (2 * n)) (own_puts cs 0 n (List.replicate (2 * n) (.int (0 : Int32)))) (.int (0 : Int32))
theorem rm_toBytes16 (l : Launch) (Z : State) (a0 : Array Value) (hw : Hw a0 Z) (ws : List Jvm.Cond) (a1 : Addr) (n : Nat) (k1 : ClassId) (cs : List Int32) (h0 : Heap) (n0 : Nat) (Z0 : n0 ≤ h0.size) (O0 : Ext Z.heap h0) (hn0 : Z.heap.size ≤ n0) (S_AD : Sta Z Z.heap "java/lang/StringUTF16" "$assertionsDisabled" "Z" (.int (1 : Int32))) (S_HI : Sta Z Z.heap "java/lang/StringUTF16" "HI_BYTE_SHIFT" "I" (.int (0 : Int32))) (S_LO : Sta Z Z.heap "java/lang/StringUTF16" "LO_BYTE_SHIFT" "I" (.int (8 : Int32))) (hn : n = cs.length) (hn11 : n ≤ 21) (V_a1 : Arv Z h0 a1 k1 .char (Int32.ofNat n) (cs.map Value.int) (.int (0 : Int32))) :
    MF l y40_ jdk_52_method_14_code 5 (some (.array .byte)) ws (rM 2 1 68 36) #[(.ref a1), (.int (0 : Int32)), (.int (Int32.ofNat n))] Z h0 (Q_rm_toBytes16 Z a1 n k1 cs h0 n0) := by
  refine own_bodyF n0 (plainFor_of_name pnj_5) (fun m => efj_rm_toBytes16 m a1 n) ?_
  intro p e s m below meth c s₁ S0 hx hby hml hZ hown hnm hret hlk X0 e0 hh N0 hK go0
  have K0 : Keep h0 h0 [] := Keep.refl h0 []
  have lt_a1 := V_a1.lt
  have go1 : Go p e below s₁ (mkF m 1 #[.val (.ref a1), .val (.int (0 : Int32)), .val (.int (Int32.ofNat n)), .unset, .unset] [(.int (Int32.ofNat n))]) S0 := by
    intro tt kt
    refine go0 tt ?_
    refine XS.iloadN X0.here hx rfl (hb hby d5_0) rfl ?_
    exact kt
  obtain ⟨_, _, ⟨T2, L2, k2, n2⟩, -, X2, ⟨Lc2, hQ2, l2, y2, z2⟩, st2⟩ := Jvm.LawKit.callS X0 hx (y := y32_) hown (mvT hZ (wi hw 281 rfl)) (mvT hZ (wi hw 282 rfl)) (mvT hZ (wi hw 49 rfl)) (mvT hZ (wi hw 283 rfl)) (by decide) (backOf (W := 0) (rm_nbf l Z a0 hw [] n h0 n0 Z0 (by omega)) hZ (wi hw 283 rfl) (wi hw 49 rfl) (by decide) (by decide)) (g := (mkF m 1 #[.val (.ref a1), .val (.int (0 : Int32)), .val (.int (Int32.ofNat n)), .unset, .unset] [(.int (Int32.ofNat n))])) rfl (by rw [hml]; rfl) (argsL := [(.int (Int32.ofNat n))]) (rest := []) (lenOf pd29_ rfl) rfl (by show 2 * 0 + _ ≤ _; exact Nat.le_of_eq rfl) (hb hby d5_1) (fun _ _ => ⟨rfl, e0, (by decide : 0 + 1 ≤ _), (by decide : 0 + 68 ≤ _)⟩)
  dsimp only [Pt.U, Pt.locs, Pt.cells, Pt.slots] at X2 l2 y2 z2 st2 hQ2
  subst l2 y2 z2
  obtain ⟨b, kb, rfl, N2q, E2, g_b, sz_b, V_b⟩ := hQ2
  have V_a1 := V_a1.ext E2
  have Z0 := Nat.le_trans Z0 E2.1
  have K0 := K0.ext E2
  have N2 := Fr.app N0 N2q
  have go3 : Go p e below T2 (mkF m 4 #[.val (.ref a1), .val (.int (0 : Int32)), .val (.int (Int32.ofNat n)), .unset, .unset] [(.ref b)]) S0 := fun t kt => go1 t (st2 _ kt)
  have O0 : Ext Z.heap T2.heap := ⟨Nat.le_trans O0.1 E2.1, fun a c hc => E2.2 a c (O0.2 a c hc)⟩
  have ne_a1_b : a1 ≠ b := fun z => absurd lt_a1 (Nat.not_lt.mpr (z ▸ sz_b))
  have go4 : Go p e below T2 (mkF m 8 #[.val (.ref a1), .val (.int (0 : Int32)), .val (.int (Int32.ofNat n)), .val (.ref b), .val (.int (0 : Int32))] []) S0 := by
    intro tt kt
    refine go3 tt ?_
    refine XS.astoreN X2.here hx rfl (hb hby d5_4) rfl rfl (l' := #[.val (.ref a1), .val (.int (0 : Int32)), .val (.int (Int32.ofNat n)), .val (.ref b), .unset]) rfl ?_
    refine XS.iconst X2.here hx rfl (hb hby d5_5) ?_
    refine XS.istore X2.here hx rfl (hb hby d5_6) rfl (l' := #[.val (.ref a1), .val (.int (0 : Int32)), .val (.int (Int32.ofNat n)), .val (.ref b), .val (.int (0 : Int32))]) rfl ?_
    exact kt
  obtain ⟨T1, h1, locs1, X1, e1, N1, K1, V1, st1⟩ := own_loopTB hw hx hZ hown hby hml hn hn11 g_b ne_a1_b hn0 S_AD S_HI S_LO n 0 (by omega) T2 T2.heap _ _ X2 rfl Z0 O0 V_a1 V_b (by simp) N2
  have go5 : Go p e below T1 (mkF m 32 #[.val (.ref a1), .val (.int (Int32.ofNat n)), .val (.int (Int32.ofNat n)), .val (.ref b), .val (.int (Int32.ofNat n))] []) S0 := fun t kt => go4 t (st1 t kt)
  have K0 := K0.trans K1 (allS (Or.inr sz_b) all0)
  have go6 : Go p e below T1 (mkF m 33 #[.val (.ref a1), .val (.int (Int32.ofNat n)), .val (.int (Int32.ofNat n)), .val (.ref b), .val (.int (Int32.ofNat n))] [(.ref b)]) S0 := by
    intro tt kt
    refine go5 tt ?_
    refine XS.aloadN X1.here hx rfl (hb hby d5_32) rfl rfl ?_
    exact kt
  exact own_leaveA X1 hx hret hlk (hb hby d5_33) go6 e1 (⟨b, kb, rfl, N1, oE K0, g_b, sz_b, V1⟩) (by decide) (by decide)
theorem d6_3 : Dc c23 3 (.iload 5) 2 := by decide +kernel
theorem d6_5 : Dc c23 5 (.iload 4) 2 := by decide +kernel
theorem d6_7 : Dc c23 7 (.if_icmp .ge 37) 3 := by decide +kernel
theorem d6_10 : Dc c23 10 (.aload_n 0) 1 := by decide +kernel
theorem d6_11 : Dc c23 11 (.iload_n 1) 1 := by decide +kernel
theorem d6_12 : Dc c23 12 (.caload) 1 := by decide +kernel
theorem d6_13 : Dc c23 13 (.istore 6) 2 := by decide +kernel
theorem d6_15 : Dc c23 15 (.iload 6) 2 := by decide +kernel
theorem d6_17 : Dc c23 17 (.sipush 255) 3 := by decide +kernel
theorem d6_20 : Dc c23 20 (.if_icmp .le 6) 3 := by decide +kernel
theorem d6_23 : Dc c23 23 (.iload 5) 2 := by decide +kernel
theorem d6_26 : Dc c23 26 (.aload_n 2) 1 := by decide +kernel
theorem d6_27 : Dc c23 27 (.iload_n 3) 1 := by decide +kernel
theorem d6_28 : Dc c23 28 (.iload 6) 2 := by decide +kernel
theorem d6_30 : Dc c23 30 (.i2b) 1 := by decide +kernel
theorem d6_31 : Dc c23 31 (.bastore) 1 := by decide +kernel
theorem d6_32 : Dc c23 32 (.iinc 1 1) 3 := by decide +kernel
theorem d6_35 : Dc c23 35 (.iinc 3 1) 3 := by decide +kernel
theorem d6_38 : Dc c23 38 (.iinc 5 1) 3 := by decide +kernel
theorem d6_41 : Dc c23 41 (.goto (-38)) 3 := by decide +kernel
set_option maxRecDepth 65536 in
set_option maxHeartbeats 40000000 in
theorem own_loopCP {p : Program} {l : Launch} {e : Env} {s : State} {m : MethodId} {args : Array Value} {below : List Frame} {meth : Method} {c : Code} {Z : State} {n0 n i : Nat} {a1 b : Addr} {k1 kb : ClassId} {cs : List Int32} (hx : p.tables.exec = Jvm.exec) (hZ : Z.Warmed39 s.vm) (hby : c.code = jdk_52_method_21_code) (hn : n = cs.length) (hn11 : n ≤ 21) (hi : i < n) (hlo : ∀ x, x < i → ¬ (255 : Int32) < cs.getD x 0) (hhi : (255 : Int32) < cs.getD i 0) (g_b : n0 ≤ b) (ne_a1_b : a1 ≠ b) :
    ∀ (d j : Nat), j + d = i → ∀ (T0 : State) (h0 : Heap) (locs : List Loc) (vs : List Value) (s6 : Slot), (s6 = .unset ∨ ∃ x : Int32, s6 = .val (.int x)) → Stand p l e ({ frames := 0, cells := 0, slots := 0, locals := 0 } : Room) s m args below meth c T0 locs 0 0 → T0.heap = h0 → n0 ≤ h0.size → Arv Z h0 a1 k1 .char (Int32.ofNat n) (cs.map Value.int) (.int (0 : Int32)) → Arv Z h0 b kb .byte (Int32.ofNat n) vs (.int (0 : Int32)) → vs.length = n → Fr n0 locs →
      ∃ (T1 : State) (h1 : Heap) (locs1 : List Loc), Stand p l e ({ frames := 0, cells := 0, slots := 0, locals := 0 } : Room) s m args below meth c T1 locs1 0 0 ∧ T1.heap = h1 ∧ Fr n0 locs1 ∧ Keep h0 h1 [b] ∧ ∀ t, Steps p.tables e below (T1.setTop (mkF m 25 #[.val (.ref a1), .val (.int (Int32.ofNat i)), .val (.ref b), .val (.int (Int32.ofNat i)), .val (.int (Int32.ofNat n)), .val (.int (Int32.ofNat i)), .val (.int (cs.getD i 0))] [(.int (Int32.ofNat i))])) t → Steps p.tables e below (T0.setTop (mkF m 3 #[.val (.ref a1), .val (.int (Int32.ofNat j)), .val (.ref b), .val (.int (Int32.ofNat j)), .val (.int (Int32.ofNat n)), .val (.int (Int32.ofNat j)), s6] [])) t := by
  intro d
  induction d with
  | zero =>
    intro j hj T0 h0 locs vs s6 hs6 X0 e0 Z0 V_a1 V_b hvl N0
    obtain rfl : j = i := by omega
    have K0 : Keep h0 h0 [b] := Keep.refl h0 [b]
    have hz : (Int32.ofNat n).toNatClampNeg = vs.length := by rw [oC (by omega), hvl]
    have go0 : Go p e below T0 (mkF m 3 #[.val (.ref a1), .val (.int (Int32.ofNat j)), .val (.ref b), .val (.int (Int32.ofNat j)), .val (.int (Int32.ofNat n)), .val (.int (Int32.ofNat j)), s6] []) (T0.setTop (mkF m 3 #[.val (.ref a1), .val (.int (Int32.ofNat j)), .val (.ref b), .val (.int (Int32.ofNat j)), .val (.int (Int32.ofNat n)), .val (.int (Int32.ofNat j)), s6] [])) := fun t k => k
    generalize (T0.setTop (mkF m 3 #[.val (.ref a1), .val (.int (Int32.ofNat j)), .val (.ref b), .val (.int (Int32.ofNat j)), .val (.int (Int32.ofNat n)), .val (.int (Int32.ofNat j)), s6] [])) = S0 at go0 ⊢
    have go1 : Go p e below T0 (mkF m 12 #[.val (.ref a1), .val (.int (Int32.ofNat j)), .val (.ref b), .val (.int (Int32.ofNat j)), .val (.int (Int32.ofNat n)), .val (.int (Int32.ofNat j)), s6] [(.int (Int32.ofNat j)), (.ref a1)]) S0 := by
      intro tt kt
      refine go0 tt ?_
      refine XS.iload X0.here hx rfl (hb hby d6_3) rfl ?_
      refine XS.iload X0.here hx rfl (hb hby d6_5) rfl ?_
      refine XS.icmpNo X0.here hx rfl (hb hby d6_7) rfl (tlt (own_ltN (by omega) (by omega))).2.1 ?_
      refine XS.aloadN X0.here hx rfl (hb hby d6_10) rfl rfl ?_
      refine XS.iloadN X0.here hx rfl (hb hby d6_11) rfl ?_
      exact kt
    obtain ⟨cl2, Ar2, q2, S2, N2, H2, G2⟩ := id V_a1
    have go3 : Go p e below T0 (mkF m 13 #[.val (.ref a1), .val (.int (Int32.ofNat j)), .val (.ref b), .val (.int (Int32.ofNat j)), .val (.int (Int32.ofNat n)), .val (.int (Int32.ofNat j)), s6] [(.int (cs.getD j 0))]) S0 := by
      intro tt kt
      refine go1 tt ?_
      refine X0.caload hx (j := Int32.ofNat j) (v := .int (cs.getD j 0)) (by rw [e0]; exact Ar2.1) (State.isArrayOf_alike hZ.alike Ar2.2.1) Ar2.2.2 (fun q => q.elim (oN (by omega)) fun q => by rw [S2, oC (by omega), oC (by omega)] at q; omega) (by rw [oC (by omega), H2 _ (by rw [S2, oC (by omega)]; omega)]; exact congrArg some (own_getD cs j (by omega))) (g := (mkF m 12 #[.val (.ref a1), .val (.int (Int32.ofNat j)), .val (.ref b), .val (.int (Int32.ofNat j)), .val (.int (Int32.ofNat n)), .val (.int (Int32.ofNat j)), s6] [(.int (Int32.ofNat j)), (.ref a1)])) rfl rfl (hb hby d6_12) _ ?_
      exact kt
    have hst : storeLocals #[.val (.ref a1), .val (.int (Int32.ofNat j)), .val (.ref b), .val (.int (Int32.ofNat j)), .val (.int (Int32.ofNat n)), .val (.int (Int32.ofNat j)), s6] 6 (.int (cs.getD j 0)) = some #[.val (.ref a1), .val (.int (Int32.ofNat j)), .val (.ref b), .val (.int (Int32.ofNat j)), .val (.int (Int32.ofNat n)), .val (.int (Int32.ofNat j)), .val (.int (cs.getD j 0))] := by rcases hs6 with rfl | ⟨x, rfl⟩ <;> rfl
    have go4 : Go p e below T0 (mkF m 25 #[.val (.ref a1), .val (.int (Int32.ofNat j)), .val (.ref b), .val (.int (Int32.ofNat j)), .val (.int (Int32.ofNat n)), .val (.int (Int32.ofNat j)), .val (.int (cs.getD j 0))] [(.int (Int32.ofNat j))]) S0 := by
      intro tt kt
      refine go3 tt ?_
      refine XS.istore X0.here hx rfl (hb hby d6_13) rfl (l' := #[.val (.ref a1), .val (.int (Int32.ofNat j)), .val (.ref b), .val (.int (Int32.ofNat j)), .val (.int (Int32.ofNat n)), .val (.int (Int32.ofNat j)), .val (.int (cs.getD j 0))]) hst ?_
      refine XS.iload X0.here hx rfl (hb hby d6_15) rfl ?_
      refine XS.sipush X0.here hx rfl (hb hby d6_17) ?_
      refine XS.icmpNo X0.here hx rfl (hb hby d6_20) rfl (tlt hhi).2.2.2 ?_
      refine XS.iload X0.here hx rfl (hb hby d6_23) rfl ?_
      exact kt
    exact ⟨T0, h0, locs, X0, e0, N0, K0, go4⟩
  | succ d ih =>
    intro j hj T0 h0 locs vs s6 hs6 X0 e0 Z0 V_a1 V_b hvl N0
    have K0 : Keep h0 h0 [b] := Keep.refl h0 [b]
    have hz : (Int32.ofNat n).toNatClampNeg = vs.length := by rw [oC (by omega), hvl]
    have go0 : Go p e below T0 (mkF m 3 #[.val (.ref a1), .val (.int (Int32.ofNat j)), .val (.ref b), .val (.int (Int32.ofNat j)), .val (.int (Int32.ofNat n)), .val (.int (Int32.ofNat j)), s6] []) (T0.setTop (mkF m 3 #[.val (.ref a1), .val (.int (Int32.ofNat j)), .val (.ref b), .val (.int (Int32.ofNat j)), .val (.int (Int32.ofNat n)), .val (.int (Int32.ofNat j)), s6] [])) := fun t k => k
    generalize (T0.setTop (mkF m 3 #[.val (.ref a1), .val (.int (Int32.ofNat j)), .val (.ref b), .val (.int (Int32.ofNat j)), .val (.int (Int32.ofNat n)), .val (.int (Int32.ofNat j)), s6] [])) = S0 at go0 ⊢
    have go5 : Go p e below T0 (mkF m 12 #[.val (.ref a1), .val (.int (Int32.ofNat j)), .val (.ref b), .val (.int (Int32.ofNat j)), .val (.int (Int32.ofNat n)), .val (.int (Int32.ofNat j)), s6] [(.int (Int32.ofNat j)), (.ref a1)]) S0 := by
      intro tt kt
      refine go0 tt ?_
      refine XS.iload X0.here hx rfl (hb hby d6_3) rfl ?_
      refine XS.iload X0.here hx rfl (hb hby d6_5) rfl ?_
      refine XS.icmpNo X0.here hx rfl (hb hby d6_7) rfl (tlt (own_ltN (by omega) (by omega))).2.1 ?_
      refine XS.aloadN X0.here hx rfl (hb hby d6_10) rfl rfl ?_
      refine XS.iloadN X0.here hx rfl (hb hby d6_11) rfl ?_
      exact kt
    obtain ⟨cl6, Ar6, q6, S6, N6, H6, G6⟩ := id V_a1
    have go7 : Go p e below T0 (mkF m 13 #[.val (.ref a1), .val (.int (Int32.ofNat j)), .val (.ref b), .val (.int (Int32.ofNat j)), .val (.int (Int32.ofNat n)), .val (.int (Int32.ofNat j)), s6] [(.int (cs.getD j 0))]) S0 := by
      intro tt kt
      refine go5 tt ?_
      refine X0.caload hx (j := Int32.ofNat j) (v := .int (cs.getD j 0)) (by rw [e0]; exact Ar6.1) (State.isArrayOf_alike hZ.alike Ar6.2.1) Ar6.2.2 (fun q => q.elim (oN (by omega)) fun q => by rw [S6, oC (by omega), oC (by omega)] at q; omega) (by rw [oC (by omega), H6 _ (by rw [S6, oC (by omega)]; omega)]; exact congrArg some (own_getD cs j (by omega))) (g := (mkF m 12 #[.val (.ref a1), .val (.int (Int32.ofNat j)), .val (.ref b), .val (.int (Int32.ofNat j)), .val (.int (Int32.ofNat n)), .val (.int (Int32.ofNat j)), s6] [(.int (Int32.ofNat j)), (.ref a1)])) rfl rfl (hb hby d6_12) _ ?_
      exact kt
    have hst : storeLocals #[.val (.ref a1), .val (.int (Int32.ofNat j)), .val (.ref b), .val (.int (Int32.ofNat j)), .val (.int (Int32.ofNat n)), .val (.int (Int32.ofNat j)), s6] 6 (.int (cs.getD j 0)) = some #[.val (.ref a1), .val (.int (Int32.ofNat j)), .val (.ref b), .val (.int (Int32.ofNat j)), .val (.int (Int32.ofNat n)), .val (.int (Int32.ofNat j)), .val (.int (cs.getD j 0))] := by rcases hs6 with rfl | ⟨x, rfl⟩ <;> rfl
    have go8 : Go p e below T0 (mkF m 31 #[.val (.ref a1), .val (.int (Int32.ofNat j)), .val (.ref b), .val (.int (Int32.ofNat j)), .val (.int (Int32.ofNat n)), .val (.int (Int32.ofNat j)), .val (.int (cs.getD j 0))] [(.int ((cs.getD j 0).toInt8.toInt32)), (.int (Int32.ofNat j)), (.ref b)]) S0 := by
      intro tt kt
      refine go7 tt ?_
      refine XS.istore X0.here hx rfl (hb hby d6_13) rfl (l' := #[.val (.ref a1), .val (.int (Int32.ofNat j)), .val (.ref b), .val (.int (Int32.ofNat j)), .val (.int (Int32.ofNat n)), .val (.int (Int32.ofNat j)), .val (.int (cs.getD j 0))]) hst ?_
      refine XS.iload X0.here hx rfl (hb hby d6_15) rfl ?_
      refine XS.sipush X0.here hx rfl (hb hby d6_17) ?_
      refine XS.icmpYes X0.here hx rfl (pc0 := 20) (pc' := 26) rfl (hb hby d6_20) rfl (flt (hlo j (by omega))).2.2.2 (by decide) (by decide) ?_
      refine XS.aloadN X0.here hx rfl (hb hby d6_26) rfl rfl ?_
      refine XS.iloadN X0.here hx rfl (hb hby d6_27) rfl ?_
      refine XS.iload X0.here hx rfl (hb hby d6_28) rfl ?_
      refine XS.i2b X0.here hx rfl (hb hby d6_30) rfl ?_
      exact kt
    obtain ⟨cl9, Ar9, q9, S9, N9, H9, G9⟩ := V_b
    obtain ⟨T9, h9, X9, e9, W9, st9⟩ := stB X0 hx hZ e0 Ar9 (j := (Int32.ofNat j)) (fun q => q.elim (oN (by omega)) fun q => by rw [S9, hz, (oC (n := j) (by omega))] at q; omega) (g := (mkF m 31 #[.val (.ref a1), .val (.int (Int32.ofNat j)), .val (.ref b), .val (.int (Int32.ofNat j)), .val (.int (Int32.ofNat n)), .val (.int (Int32.ofNat j)), .val (.int (cs.getD j 0))] [(.int ((cs.getD j 0).toInt8.toInt32)), (.int (Int32.ofNat j)), (.ref b)])) rfl rfl (hb hby d6_31)
    have V_a1 := V_a1.other W9 ne_a1_b
    have V_b := Arv.set Ar9 q9 S9 N9 H9 G9 (fits_nar_byte _) W9 (j) (oC (n := j) (by omega)) (by first | omega | (simp only [List.length_set]; omega))
    have Z0 := Nat.le_trans Z0 (Keep.of_wr W9).1
    have K0 := K0.wr W9 (Or.inl (List.mem_of_getElem? (i := 0) rfl))
    have N9r := Fr.snoc X9 N0 g_b
    have go10 : Go p e below T9 (mkF m 32 #[.val (.ref a1), .val (.int (Int32.ofNat j)), .val (.ref b), .val (.int (Int32.ofNat j)), .val (.int (Int32.ofNat n)), .val (.int (Int32.ofNat j)), .val (.int (cs.getD j 0))] []) S0 := fun t kt => go8 t (st9 _ kt)
    have go11 : Go p e below T9 (mkF m 3 #[.val (.ref a1), .val (.int ((Int32.ofNat j) + (1 : Int32))), .val (.ref b), .val (.int ((Int32.ofNat j) + (1 : Int32))), .val (.int (Int32.ofNat n)), .val (.int ((Int32.ofNat j) + (1 : Int32))), .val (.int (cs.getD j 0))] []) S0 := by
      intro tt kt
      refine go10 tt ?_
      refine XS.iinc X9.here hx rfl (hb hby d6_32) rfl (l' := #[.val (.ref a1), .val (.int ((Int32.ofNat j) + (1 : Int32))), .val (.ref b), .val (.int (Int32.ofNat j)), .val (.int (Int32.ofNat n)), .val (.int (Int32.ofNat j)), .val (.int (cs.getD j 0))]) rfl ?_
      refine XS.iinc X9.here hx rfl (hb hby d6_35) rfl (l' := #[.val (.ref a1), .val (.int ((Int32.ofNat j) + (1 : Int32))), .val (.ref b), .val (.int ((Int32.ofNat j) + (1 : Int32))), .val (.int (Int32.ofNat n)), .val (.int (Int32.ofNat j)), .val (.int (cs.getD j 0))]) rfl ?_
      refine XS.iinc X9.here hx rfl (hb hby d6_38) rfl (l' := #[.val (.ref a1), .val (.int ((Int32.ofNat j) + (1 : Int32))), .val (.ref b), .val (.int ((Int32.ofNat j) + (1 : Int32))), .val (.int (Int32.ofNat n)), .val (.int ((Int32.ofNat j) + (1 : Int32))), .val (.int (cs.getD j 0))]) rfl ?_
      refine XS.goto X9.here hx rfl (pc0 := 41) (pc' := 3) rfl (hb hby d6_41) (by decide) (by decide) ?_
      exact kt
    have go12 : Go p e below T9 (mkF m 3 #[.val (.ref a1), .val (.int (Int32.ofNat (j + 1))), .val (.ref b), .val (.int (Int32.ofNat (j + 1))), .val (.int (Int32.ofNat n)), .val (.int (Int32.ofNat (j + 1))), .val (.int (cs.getD j 0))] []) S0 := by rw [← own_one]; exact go11
    obtain ⟨T1, h1, locs1, X1, e1, N1, K1, st1⟩ := ih (j + 1) (by omega) T9 h9 _ _ _ (Or.inr ⟨_, rfl⟩) X9 e9 Z0 V_a1 V_b (by simp only [List.length_set]; exact hvl) N9r
    exact ⟨T1, h1, locs1, X1, e1, N1, K0.trans K1 (allS (Or.inl (List.mem_singleton.mpr rfl)) all0), fun t kt => go12 t (st1 t kt)⟩
theorem own_low (x : BitVec 32) (h : x.toNat < 65536) (j : Nat) (hj : 16 ≤ j) : x.getLsbD j = false := by
  rw [BitVec.getLsbD, Nat.testBit_lt_two_pow]
  exact Nat.lt_of_lt_of_le h (Nat.le_trans (by decide : 65536 ≤ 2 ^ 16) (Nat.pow_le_pow_right (by decide) hj))
theorem own_bv (x : BitVec 32) (h : x.toNat < 65536) : BitVec.setWidth 32 (BitVec.setWidth 16 (((BitVec.signExtend 32 (BitVec.setWidth 8 x)) &&& 255#32) ||| (((BitVec.signExtend 32 (BitVec.setWidth 8 (x >>> 8))) &&& 255#32) <<< 8))) = x := by
  have hm : ∀ y : BitVec 32, (BitVec.signExtend 32 (BitVec.setWidth 8 y)) &&& 255#32 = BitVec.setWidth 32 (BitVec.setWidth 8 y) := by
    intro y
    apply BitVec.eq_of_getLsbD_eq
    intro i hi
    rw [BitVec.getLsbD_and, BitVec.getLsbD_signExtend]
    by_cases q : i < 8
    · have : (255#32).getLsbD i = true := by
        rcases (by omega : i = 0 ∨ i = 1 ∨ i = 2 ∨ i = 3 ∨ i = 4 ∨ i = 5 ∨ i = 6 ∨ i = 7) with rfl | rfl | rfl | rfl | rfl | rfl | rfl | rfl <;> decide
      simp [this, q, hi]
    · have : (255#32).getLsbD i = false := by
        rw [BitVec.getLsbD, Nat.testBit_lt_two_pow]
        exact Nat.lt_of_lt_of_le (by decide : (255#32).toNat < 2 ^ 8) (Nat.pow_le_pow_right (by decide) (by omega))
      simp [this]
      omega
  rw [hm, hm]
  apply BitVec.eq_of_getLsbD_eq
  intro i hi
  by_cases q : i < 8
  · simp [BitVec.getLsbD_setWidth, BitVec.getLsbD_or, BitVec.getLsbD_shiftLeft, q]; omega
  · by_cases q2 : i < 16
    · simp [BitVec.getLsbD_setWidth, BitVec.getLsbD_or, BitVec.getLsbD_shiftLeft, q, q2, hi, show i - 8 < 8 by omega, show 8 + (i - 8) = i by omega]
    · simp [BitVec.getLsbD_setWidth, q2, own_low x h i (by omega)]
theorem own_gc_eq (c : Int32) (h0 : ¬ c < (0 : Int32)) (h1 : ¬ (65535 : Int32) < c) : own_gc (own_hi c) (own_lo c) = c := by
  rw [Int32.lt_iff_toInt_lt] at h0 h1
  have e0 : (0 : Int32).toInt = 0 := rfl
  have e1 : (65535 : Int32).toInt = 65535 := rfl
  have hx : c.toBitVec.toNat < 65536 := by
    have q : c.toBitVec.toInt = c.toInt := rfl
    rw [BitVec.toInt_eq_toNat_cond] at q
    have := c.toBitVec.isLt
    split at q <;> omega
  have key := own_bv c.toBitVec hx
  have hcn : c.toInt = (c.toBitVec.toNat : Int) := by
    show c.toBitVec.toInt = _
    rw [BitVec.toInt_eq_toNat_cond, if_pos (by omega)]
  have s0 : c >>> ((0 : Int32) &&& 31) = c := Int32.toInt_inj.mp (by rw [Jvm.Kit.i32_shr c _ (k := 0) (by decide)]; omega)
  have s8 : (c >>> ((8 : Int32) &&& 31)) = Int32.ofBitVec (c.toBitVec >>> 8) := Int32.toInt_inj.mp (by
    rw [Jvm.Kit.i32_shr c _ (k := 8) (by decide)]
    show _ = (c.toBitVec >>> 8).toInt
    rw [BitVec.toInt_eq_toNat_cond, BitVec.toNat_ushiftRight, Nat.shiftRight_eq_div_pow, if_pos (by omega)]
    omega)
  have hb : ∀ z : Int32, nar .byte (z.toInt8.toInt32) = z.toInt8.toInt32 := fun z => by show z.toInt8.toInt32.toInt8.toInt32 = _; simp
  have l0 : ∀ y : Int32, y <<< ((0 : Int32) &&& 31) = y := fun y => by
    apply Int32.toBitVec_inj.mp
    show y.toBitVec <<< _ = _
    simp
  have l8 : ∀ y : Int32, (y <<< ((8 : Int32) &&& 31)).toBitVec = y.toBitVec <<< 8 := fun y => rfl
  have key2 : ∀ y : BitVec 32, BitVec.setWidth 32 (BitVec.setWidth 16 (BitVec.setWidth 32 (BitVec.setWidth 16 y))) = BitVec.setWidth 32 (BitVec.setWidth 16 y) := fun y => by
    apply BitVec.eq_of_toNat_eq
    simp only [BitVec.toNat_setWidth]; omega
  apply Int32.toBitVec_inj.mp
  rw [own_gc, own_hi, own_lo, hb, hb, s0, s8, l0]
  refine Eq.trans (key2 _) (Eq.trans ?_ key)
  have t8 : ∀ z : Int32, z.toInt8.toInt32.toBitVec = BitVec.signExtend 32 (BitVec.setWidth 8 z.toBitVec) := fun z => by rw [Int8.toBitVec_toInt32, Int32.toBitVec_toInt8, BitVec.signExtend_eq_setWidth_of_le z.toBitVec (by decide : 8 ≤ 32)]
  have t1 := t8 c
  have t2 := t8 (Int32.ofBitVec (c.toBitVec >>> 8))
  show BitVec.setWidth 32 (BitVec.setWidth 16 ((c.toInt8.toInt32.toBitVec &&& 255#32) ||| (((Int32.ofBitVec (c.toBitVec >>> 8)).toInt8.toInt32.toBitVec &&& 255#32) <<< 8))) = _
  rw [t1, t2]
  rfl
theorem own_puts_len (cs : List Int32) : ∀ d j vs, (own_puts cs j d vs).length = vs.length
  | 0, _, _ => rfl
  | d + 1, j, vs => by rw [own_puts, own_puts_len cs d]; simp [own_put]
theorem own_puts_low (cs : List Int32) (dv : Value) : ∀ d j vs m, m < 2 * j → (own_puts cs j d vs).getD m dv = vs.getD m dv
  | 0, _, _, _, _ => rfl
  | d + 1, j, vs, m, h => by
    rw [own_puts, own_puts_low cs dv d (j + 1) _ m (by omega)]
    simp only [own_put, List.getD_eq_getElem?_getD]
    rw [List.getElem?_set_ne (by omega), List.getElem?_set_ne (by omega)]
theorem own_puts_get (cs : List Int32) (dv : Value) : ∀ d j vs i, j ≤ i → i < j + d → 2 * (j + d) ≤ vs.length → (own_puts cs j d vs).getD (2 * i) dv = .int (own_hi (cs.getD i 0)) ∧ (own_puts cs j d vs).getD (2 * i + 1) dv = .int (own_lo (cs.getD i 0))
  | 0, j, vs, i, h1, h2, _ => by omega
  | d + 1, j, vs, i, h1, h2, h3 => by
    rw [own_puts]
    by_cases q : i = j
    · subst q
      rw [own_puts_low cs dv d (i + 1) _ _ (by omega), own_puts_low cs dv d (i + 1) _ _ (by omega)]
      simp only [own_put, List.getD_eq_getElem?_getD]
      rw [List.getElem?_set_ne (by omega), List.getElem?_set_self (by omega), List.getElem?_set_self (by simp only [List.length_set]; omega)]
      exact ⟨rfl, rfl⟩
    · exact own_puts_get cs dv d (j + 1) _ i (by omega) (by omega) (by simp only [own_put, List.length_set]; omega)
theorem pnj_6 : plainName "java/lang/StringUTF16" = true := by first | (simp [plainName, overriddenIn]; done) | decide +kernel
theorem efj_rm_cmpI (m : MethodId) (a1 : Addr) (b : Addr) (n : Nat) : entryFrame m #[(.ref a1), (.int (0 : Int32)), (.ref b), (.int (0 : Int32)), (.int (Int32.ofNat n))] 7 = mkF m 0 #[.val (.ref a1), .val (.int (0 : Int32)), .val (.ref b), .val (.int (0 : Int32)), .val (.int (Int32.ofNat n)), .unset, .unset] [] := by first | (simp [entryFrame, mkF, argsToLocals, Value.category]; done) | rfl
theorem d6_0 : Dc c23 0 (.iconst 0) 1 := by decide +kernel
theorem d6_1 : Dc c23 1 (.istore 5) 2 := by decide +kernel
theorem d6_25 : Dc c23 25 (.ireturn) 1 := by decide +kernel
def Q_rm_cmpI (Z : State) (a1 : Addr) (b : Addr) (n : Nat) (i : Nat) (k1 : ClassId) (kb : ClassId) (cs : List Int32) (vs : List Value) (h0 : Heap) (n0 : Nat) (v : Option Value) (h : Heap) (L : List Loc) : Prop := v = some (.int (Int32.ofNat i)) ∧ Fr n0 L ∧ Keep h0 h [b]
theorem rm_cmpI (l : Launch) (Z : State) (a0 : Array Value) (hw : Hw a0 Z) (ws : List Jvm.Cond) (a1 : Addr) (b : Addr) (n : Nat) (i : Nat) (k1 : ClassId) (kb : ClassId) (cs : List Int32) (vs : List Value) (h0 : Heap) (n0 : Nat) (Z0 : n0 ≤ h0.size) (hn : n = cs.length) (hn11 : n ≤ 21) (hi : i < n) (hlo : ∀ x, x < i → ¬ (255 : Int32) < cs.getD x 0) (hhi : (255 : Int32) < cs.getD i 0) (V_a1 : Arv Z h0 a1 k1 .char (Int32.ofNat n) (cs.map Value.int) (.int (0 : Int32))) (g_b : n0 ≤ b) (ne_a1_b : a1 ≠ b) (V_b : Arv Z h0 b kb .byte (Int32.ofNat n) vs (.int (0 : Int32))) (hvl : vs.length = n) :
    MF l y20_ jdk_52_method_21_code 7 (some .int) ws (rM 0 0 0 0) #[(.ref a1), (.int (0 : Int32)), (.ref b), (.int (0 : Int32)), (.int (Int32.ofNat n))] Z h0 (Q_rm_cmpI Z a1 b n i k1 kb cs vs h0 n0) := by
  refine own_bodyF n0 (plainFor_of_name pnj_6) (fun m => efj_rm_cmpI m a1 b n) ?_
  intro p e s m below meth c s₁ S0 hx hby hml hZ hown hnm hret hlk X0 e0 hh N0 hK go0
  have go1 : Go p e below s₁ (mkF m 3 #[.val (.ref a1), .val (.int (0 : Int32)), .val (.ref b), .val (.int (0 : Int32)), .val (.int (Int32.ofNat n)), .val (.int (0 : Int32)), .unset] []) S0 := by
    intro tt kt
    refine go0 tt ?_
    refine XS.iconst X0.here hx rfl (hb hby d6_0) ?_
    refine XS.istore X0.here hx rfl (hb hby d6_1) rfl (l' := #[.val (.ref a1), .val (.int (0 : Int32)), .val (.ref b), .val (.int (0 : Int32)), .val (.int (Int32.ofNat n)), .val (.int (0 : Int32)), .unset]) rfl ?_
    exact kt
  obtain ⟨T1, h1, locs1, X1, e1, N1, K1, st1⟩ := own_loopCP hx hZ hby hn hn11 hi hlo hhi g_b ne_a1_b i 0 (by omega) s₁ h0 _ vs _ (Or.inl rfl) X0 e0 Z0 V_a1 V_b hvl N0
  have go2 : Go p e below T1 (mkF m 25 #[.val (.ref a1), .val (.int (Int32.ofNat i)), .val (.ref b), .val (.int (Int32.ofNat i)), .val (.int (Int32.ofNat n)), .val (.int (Int32.ofNat i)), .val (.int (cs.getD i 0))] [(.int (Int32.ofNat i))]) S0 := fun t kt => go1 t (st1 t kt)
  exact own_leaveI X1 hx hret hlk (hb hby d6_25) go2 e1 (⟨rfl, N1, K1⟩) (by decide) (by decide)
theorem pnj_7 : plainName "java/lang/StringUTF16" = true := by first | (simp [plainName, overriddenIn]; done) | decide +kernel
theorem efj_rm_cmp16 (m : MethodId) (a1 : Addr) (n : Nat) : entryFrame m #[(.ref a1), (.int (0 : Int32)), (.int (Int32.ofNat n))] 6 = mkF m 0 #[.val (.ref a1), .val (.int (0 : Int32)), .val (.int (Int32.ofNat n)), .unset, .unset, .unset] [] := by first | (simp [entryFrame, mkF, argsToLocals, Value.category]; done) | rfl
theorem d7_0 : Dc c22 0 (.iload_n 2) 1 := by decide +kernel
theorem d7_1 : Dc c22 1 (.newarray .byte) 2 := by decide +kernel
theorem d7_3 : Dc c22 3 (.astore_n 3) 1 := by decide +kernel
theorem d7_4 : Dc c22 4 (.aload_n 0) 1 := by decide +kernel
theorem d7_5 : Dc c22 5 (.iload_n 1) 1 := by decide +kernel
theorem d7_6 : Dc c22 6 (.aload_n 3) 1 := by decide +kernel
theorem d7_7 : Dc c22 7 (.iconst 0) 1 := by decide +kernel
theorem d7_8 : Dc c22 8 (.iload_n 2) 1 := by decide +kernel
theorem pd14_ : parseMethodDescriptor "([CI[BII)I" = some ⟨[(.array .char), .int, (.array .byte), .int, .int], some .int⟩ := by decide +kernel
theorem d7_9 : Dc c22 9 (.invokestatic 115) 3 := by decide +kernel
theorem d7_12 : Dc c22 12 (.istore 4) 2 := by decide +kernel
theorem d7_14 : Dc c22 14 (.iload 4) 2 := by decide +kernel
theorem d7_16 : Dc c22 16 (.iload_n 2) 1 := by decide +kernel
theorem d7_17 : Dc c22 17 (.if_icmp .eq 40) 3 := by decide +kernel
theorem d7_20 : Dc c22 20 (.aload_n 0) 1 := by decide +kernel
theorem d7_21 : Dc c22 21 (.iload_n 1) 1 := by decide +kernel
theorem d7_22 : Dc c22 22 (.iload_n 2) 1 := by decide +kernel
theorem pd17_ : parseMethodDescriptor "([CII)[B" = some ⟨[(.array .char), .int, .int], some (.array .byte)⟩ := by decide +kernel
theorem d7_23 : Dc c22 23 (.invokestatic 119) 3 := by decide +kernel
theorem d7_26 : Dc c22 26 (.astore 5) 2 := by decide +kernel
theorem d7_28 : Dc c22 28 (.aload 5) 2 := by decide +kernel
theorem d7_30 : Dc c22 30 (.iload 4) 2 := by decide +kernel
theorem pd25_ : parseMethodDescriptor "([BI)C" = some ⟨[(.array .byte), .int], some .char⟩ := by decide +kernel
theorem d7_32 : Dc c22 32 (.invokestatic 71) 3 := by decide +kernel
theorem d7_35 : Dc c22 35 (.sipush 255) 3 := by decide +kernel
theorem d7_38 : Dc c22 38 (.if_icmp .gt 16) 3 := by decide +kernel
theorem d7_54 : Dc c22 54 (.aload 5) 2 := by decide +kernel
theorem d7_56 : Dc c22 56 (.areturn) 1 := by decide +kernel
def Q_rm_cmp16 (Z : State) (a1 : Addr) (n : Nat) (i : Nat) (k1 : ClassId) (cs : List Int32) (h0 : Heap) (n0 : Nat) (v : Option Value) (h : Heap) (L : List Loc) : Prop := ∃ (u : Addr) (k : ClassId), v = some (.ref u) ∧ Fr n0 L ∧ Ext h0 h ∧ Arv Z h u k .byte (Int32.ofNat (2 * n)) (own_puts cs 0 n (List.replicate (2 * n) (.int (0 : Int32)))) (.int (0 : Int32)) ∧ h0.size ≤ u
theorem rm_cmp16 (l : Launch) (Z : State) (a0 : Array Value) (hw : Hw a0 Z) (ws : List Jvm.Cond) (a1 : Addr) (n : Nat) (i : Nat) (k1 : ClassId) (cs : List Int32) (h0 : Heap) (n0 : Nat) (Z0 : n0 ≤ h0.size) (O0 : Ext Z.heap h0) (hn0 : Z.heap.size ≤ n0) (S_AD : Sta Z Z.heap "java/lang/StringUTF16" "$assertionsDisabled" "Z" (.int (1 : Int32))) (S_HI : Sta Z Z.heap "java/lang/StringUTF16" "HI_BYTE_SHIFT" "I" (.int (0 : Int32))) (S_LO : Sta Z Z.heap "java/lang/StringUTF16" "LO_BYTE_SHIFT" "I" (.int (8 : Int32))) (hn : n = cs.length) (hn11 : n ≤ 21) (hi : i < n) (hlo : ∀ x, x < i → ¬ (255 : Int32) < cs.getD x 0) (hhi : (255 : Int32) < cs.getD i 0) (V_a1 : Arv Z h0 a1 k1 .char (Int32.ofNat n) (cs.map Value.int) (.int (0 : Int32))) (hch : ¬ cs.getD i 0 < (0 : Int32) ∧ ¬ (65535 : Int32) < cs.getD i 0) :
    MF l y18_ jdk_52_method_16_code 6 (some (.array .byte)) ws (rM 3 2 89 52) #[(.ref a1), (.int (0 : Int32)), (.int (Int32.ofNat n))] Z h0 (Q_rm_cmp16 Z a1 n i k1 cs h0 n0) := by
  refine own_bodyF n0 (plainFor_of_name pnj_7) (fun m => efj_rm_cmp16 m a1 n) ?_
  intro p e s m below meth c s₁ S0 hx hby hml hZ hown hnm hret hlk X0 e0 hh N0 hK go0
  have K0 : Keep h0 h0 [] := Keep.refl h0 []
  have go1 : Go p e below s₁ (mkF m 1 #[.val (.ref a1), .val (.int (0 : Int32)), .val (.int (Int32.ofNat n)), .unset, .unset, .unset] [(.int (Int32.ofNat n))]) S0 := by
    intro tt kt
    refine go0 tt ?_
    refine XS.iloadN X0.here hx rfl (hb hby d7_0) rfl ?_
    exact kt
  obtain ⟨T2, h2, k2, X2, e2, E2, A2, st2⟩ := newP X0 hx hZ (wi hw 16 rfl) e0 (g := (mkF m 1 #[.val (.ref a1), .val (.int (0 : Int32)), .val (.int (Int32.ofNat n)), .unset, .unset, .unset] [(.int (Int32.ofNat n))])) rfl (hb hby d7_1) rfl (oN (by omega)) (cap := 21) (by rw [oC (by omega)]; exact hn11) (by decide) (by decide) (by decide)
  obtain ⟨b, g2⟩ : ∃ z, z = h0.size := ⟨_, rfl⟩
  rw [← g2] at A2 st2
  have g_b : n0 ≤ b := Nat.le_trans Z0 (Nat.le_of_eq g2.symm)
  have sz_b : h0.size ≤ b := Nat.le_trans K0.1 (Nat.le_of_eq g2.symm)
  have ne_a1_b : a1 ≠ b := Nat.ne_of_lt (Nat.lt_of_lt_of_le V_a1.lt (Nat.le_of_eq g2.symm))
  have V_a1 := V_a1.ext E2
  have Z0 := Nat.le_trans Z0 E2.1
  have K0 := K0.ext E2
  have go3 : Go p e below T2 (mkF m 3 #[.val (.ref a1), .val (.int (0 : Int32)), .val (.int (Int32.ofNat n)), .unset, .unset, .unset] [(.ref b)]) S0 := fun t kt => go1 t (st2 _ kt)
  have V_b : Arv Z h2 b k2 .byte (Int32.ofNat (n)) (List.replicate (n) (.int (0 : Int32))) (.int (0 : Int32)) := (Arv.new A2 (oN (by omega))).pad (pad_rep [] (.int (0 : Int32)) (n))
  have go4 : Go p e below T2 (mkF m 9 #[.val (.ref a1), .val (.int (0 : Int32)), .val (.int (Int32.ofNat n)), .val (.ref b), .unset, .unset] [(.int (Int32.ofNat n)), (.int (0 : Int32)), (.ref b), (.int (0 : Int32)), (.ref a1)]) S0 := by
    intro tt kt
    refine go3 tt ?_
    refine XS.astoreN X2.here hx rfl (hb hby d7_3) rfl rfl (l' := #[.val (.ref a1), .val (.int (0 : Int32)), .val (.int (Int32.ofNat n)), .val (.ref b), .unset, .unset]) rfl ?_
    refine XS.aloadN X2.here hx rfl (hb hby d7_4) rfl rfl ?_
    refine XS.iloadN X2.here hx rfl (hb hby d7_5) rfl ?_
    refine XS.aloadN X2.here hx rfl (hb hby d7_6) rfl rfl ?_
    refine XS.iconst X2.here hx rfl (hb hby d7_7) ?_
    refine XS.iloadN X2.here hx rfl (hb hby d7_8) rfl ?_
    exact kt
  obtain ⟨_, _, ⟨T5, L5, k5, n5⟩, -, X5, ⟨Lc5, hQ5, l5, y5, z5⟩, st5⟩ := Jvm.LawKit.callS X2 hx (y := y20_) hown (mvT hZ (wi hw 51 rfl)) (mvT hZ (wi hw 52 rfl)) (mvT hZ (wi hw 49 rfl)) (mvT hZ (wi hw 53 rfl)) (by decide) (backOf (W := 0) (rm_cmpI l Z a0 hw [] a1 b n i k1 k2 cs _ h2 n0 Z0 hn hn11 hi hlo hhi V_a1 g_b ne_a1_b V_b (by simp)) hZ (wi hw 53 rfl) (wi hw 49 rfl) (by decide) (by decide)) (g := (mkF m 9 #[.val (.ref a1), .val (.int (0 : Int32)), .val (.int (Int32.ofNat n)), .val (.ref b), .unset, .unset] [(.int (Int32.ofNat n)), (.int (0 : Int32)), (.ref b), (.int (0 : Int32)), (.ref a1)])) rfl (by rw [hml]; rfl) (argsL := [(.ref a1), (.int (0 : Int32)), (.ref b), (.int (0 : Int32)), (.int (Int32.ofNat n))]) (rest := []) (lenOf pd14_ rfl) rfl (by show 2 * 0 + _ ≤ _; exact Nat.le_of_eq rfl) (hb hby d7_9) (fun _ _ => ⟨rfl, e2, (by decide : 1 + 0 ≤ _), (by decide : 21 + 0 ≤ _)⟩)
  dsimp only [Pt.U, Pt.locs, Pt.cells, Pt.slots] at X5 l5 y5 z5 st5 hQ5
  subst l5 y5 z5
  obtain ⟨rfl, N5q, K5⟩ := hQ5
  have K0 := K0.trans K5 (allS (Or.inr sz_b) all0)
  have Z0 := Nat.le_trans Z0 K5.1
  have V_a1 := V_a1.keep K5 (ninS ne_a1_b nin0)
  have N5 := Fr.app N0 N5q
  have go6 : Go p e below T5 (mkF m 12 #[.val (.ref a1), .val (.int (0 : Int32)), .val (.int (Int32.ofNat n)), .val (.ref b), .unset, .unset] [(.int (Int32.ofNat i))]) S0 := fun t kt => go4 t (st5 _ kt)
  have O1 : Ext Z.heap T5.heap := ⟨Nat.le_trans O0.1 K0.1, fun a c hc => (oE K0).2 a c (O0.2 a c hc)⟩
  have go7 : Go p e below T5 (mkF m 23 #[.val (.ref a1), .val (.int (0 : Int32)), .val (.int (Int32.ofNat n)), .val (.ref b), .val (.int (Int32.ofNat i)), .unset] [(.int (Int32.ofNat n)), (.int (0 : Int32)), (.ref a1)]) S0 := by
    intro tt kt
    refine go6 tt ?_
    refine XS.istore X5.here hx rfl (hb hby d7_12) rfl (l' := #[.val (.ref a1), .val (.int (0 : Int32)), .val (.int (Int32.ofNat n)), .val (.ref b), .val (.int (Int32.ofNat i)), .unset]) rfl ?_
    refine XS.iload X5.here hx rfl (hb hby d7_14) rfl ?_
    refine XS.iloadN X5.here hx rfl (hb hby d7_16) rfl ?_
    refine XS.icmpNo X5.here hx rfl (hb hby d7_17) rfl (feq (fun q => absurd (own_ltN hi (by omega)) (by rw [q]; exact own_nltN (Nat.le_refl _) (by omega)))).1 ?_
    refine XS.aloadN X5.here hx rfl (hb hby d7_20) rfl rfl ?_
    refine XS.iloadN X5.here hx rfl (hb hby d7_21) rfl ?_
    refine XS.iloadN X5.here hx rfl (hb hby d7_22) rfl ?_
    exact kt
  obtain ⟨_, _, ⟨T8, L8, k8, n8⟩, -, X8, ⟨Lc8, hQ8, l8, y8, z8⟩, st8⟩ := Jvm.LawKit.callS X5 hx (y := y40_) hown (mvT hZ (wi hw 278 rfl)) (mvT hZ (wi hw 279 rfl)) (mvT hZ (wi hw 49 rfl)) (mvT hZ (wi hw 280 rfl)) (by decide) (backOf (W := 0) (rm_toBytes16 l Z a0 hw [] a1 n k1 cs T5.heap n0 Z0 O1 hn0 S_AD S_HI S_LO hn hn11 V_a1) hZ (wi hw 280 rfl) (wi hw 49 rfl) (by decide) (by decide)) (g := (mkF m 23 #[.val (.ref a1), .val (.int (0 : Int32)), .val (.int (Int32.ofNat n)), .val (.ref b), .val (.int (Int32.ofNat i)), .unset] [(.int (Int32.ofNat n)), (.int (0 : Int32)), (.ref a1)])) rfl (by rw [hml]; rfl) (argsL := [(.ref a1), (.int (0 : Int32)), (.int (Int32.ofNat n))]) (rest := []) (lenOf pd17_ rfl) rfl (by show 2 * 0 + _ ≤ _; exact Nat.le_of_eq rfl) (hb hby d7_23) (fun _ _ => ⟨rfl, rfl, (by decide : 1 + 1 ≤ _), (by decide : 21 + 68 ≤ _)⟩)
  dsimp only [Pt.U, Pt.locs, Pt.cells, Pt.slots] at X8 l8 y8 z8 st8 hQ8
  subst l8 y8 z8
  obtain ⟨u, ku, rfl, N8q, E8, gu, su, V_u⟩ := hQ8
  have su := Nat.le_trans K0.1 su
  have V_a1 := V_a1.ext E8
  have Z0 := Nat.le_trans Z0 E8.1
  have K0 := K0.ext E8
  have N8 := Fr.app N5 N8q
  have go9 : Go p e below T8 (mkF m 26 #[.val (.ref a1), .val (.int (0 : Int32)), .val (.int (Int32.ofNat n)), .val (.ref b), .val (.int (Int32.ofNat i)), .unset] [(.ref u)]) S0 := fun t kt => go7 t (st8 _ kt)
  have O1 : Ext Z.heap T8.heap := ⟨Nat.le_trans O1.1 E8.1, fun a c hc => E8.2 a c (O1.2 a c hc)⟩
  have hgt := own_puts_get cs (.int (0 : Int32)) n 0 (List.replicate (2 * n) (.int (0 : Int32))) i (Nat.zero_le _) (by omega) (by simp)
  have hln := own_puts_len cs n 0 (List.replicate (2 * n) (.int (0 : Int32)))
  rw [List.length_replicate] at hln
  have go10 : Go p e below T8 (mkF m 32 #[.val (.ref a1), .val (.int (0 : Int32)), .val (.int (Int32.ofNat n)), .val (.ref b), .val (.int (Int32.ofNat i)), .val (.ref u)] [(.int (Int32.ofNat i)), (.ref u)]) S0 := by
    intro tt kt
    refine go9 tt ?_
    refine XS.astore X8.here hx rfl (hb hby d7_26) rfl rfl (l' := #[.val (.ref a1), .val (.int (0 : Int32)), .val (.int (Int32.ofNat n)), .val (.ref b), .val (.int (Int32.ofNat i)), .val (.ref u)]) rfl ?_
    refine XS.aload X8.here hx rfl (hb hby d7_28) rfl rfl ?_
    refine XS.iload X8.here hx rfl (hb hby d7_30) rfl ?_
    exact kt
  obtain ⟨_, _, ⟨T11, L11, k11, n11⟩, -, X11, ⟨Lc11, hQ11, l11, y11, z11⟩, st11⟩ := Jvm.LawKit.callS X8 hx (y := y51_) hown (mvT hZ (wi hw 294 rfl)) (mvT hZ (wi hw 295 rfl)) (mvT hZ (wi hw 49 rfl)) (mvT hZ (wi hw 296 rfl)) (by decide) (backOf (W := 0) (rm_getChar l Z a0 hw [] u i ku (Int32.ofNat (2 * n)) _ (own_hi (cs.getD i 0)) (own_lo (cs.getD i 0)) T8.heap n0 Z0 (S_AD.ext O1) (S_HI.ext O1) (S_LO.ext O1) V_u (by rw [oC (by omega), hln]) (by omega) (by omega) hgt.1 hgt.2) hZ (wi hw 296 rfl) (wi hw 49 rfl) (by decide) (by decide)) (g := (mkF m 32 #[.val (.ref a1), .val (.int (0 : Int32)), .val (.int (Int32.ofNat n)), .val (.ref b), .val (.int (Int32.ofNat i)), .val (.ref u)] [(.int (Int32.ofNat i)), (.ref u)])) rfl (by rw [hml]; rfl) (argsL := [(.ref u), (.int (Int32.ofNat i))]) (rest := []) (lenOf pd25_ rfl) rfl (by show 2 * 0 + _ ≤ _; exact Nat.le_of_eq rfl) (hb hby d7_32) (fun _ _ => ⟨rfl, rfl, (by decide : 2 + 0 ≤ _), (by decide : 89 + 0 ≤ _)⟩)
  dsimp only [Pt.U, Pt.locs, Pt.cells, Pt.slots] at X11 l11 y11 z11 st11 hQ11
  subst l11 y11 z11
  obtain ⟨rfl, N11q, g11⟩ := hQ11
  have K0 := own_ks g11 K0
  rw [← g11] at V_a1 V_u Z0
  have N11 := Fr.app N8 N11q
  have go12 : Go p e below T11 (mkF m 35 #[.val (.ref a1), .val (.int (0 : Int32)), .val (.int (Int32.ofNat n)), .val (.ref b), .val (.int (Int32.ofNat i)), .val (.ref u)] [(.int (own_gc (own_hi (cs.getD i 0)) (own_lo (cs.getD i 0))))]) S0 := fun t kt => go10 t (st11 _ kt)
  have go13 : Go p e below T11 (mkF m 56 #[.val (.ref a1), .val (.int (0 : Int32)), .val (.int (Int32.ofNat n)), .val (.ref b), .val (.int (Int32.ofNat i)), .val (.ref u)] [(.ref u)]) S0 := by
    intro tt kt
    refine go12 tt ?_
    refine XS.sipush X11.here hx rfl (hb hby d7_35) ?_
    refine XS.icmpYes X11.here hx rfl (pc0 := 38) (pc' := 54) rfl (hb hby d7_38) rfl (tlt (by rw [own_gc_eq _ hch.1 hch.2]; exact hhi)).2.2.1 (by decide) (by decide) ?_
    refine XS.aload X11.here hx rfl (hb hby d7_54) rfl rfl ?_
    exact kt
  exact own_leaveA X11 hx hret hlk (hb hby d7_56) go13 rfl (⟨u, ku, rfl, N11, oE K0, V_u, su⟩) (by decide) (by decide)
theorem own_ce : ∀ n, 1 ≤ n → n ≤ 21 → nar .byte (((((Int32.ofNat n) - (Int32.ofNat (2 * n))).toUInt32 >>> ((31 : Int32) &&& 31).toUInt32).toInt32).toInt8.toInt32) = (1 : Int32) := by
  intro n h1 h2
  rcases (by omega : n = 1 ∨ n = 2 ∨ n = 3 ∨ n = 4 ∨ n = 5 ∨ n = 6 ∨ n = 7 ∨ n = 8 ∨ n = 9 ∨ n = 10 ∨ n = 11 ∨ n = 12 ∨ n = 13 ∨ n = 14 ∨ n = 15 ∨ n = 16 ∨ n = 17 ∨ n = 18 ∨ n = 19 ∨ n = 20 ∨ n = 21) with rfl | rfl | rfl | rfl | rfl | rfl | rfl | rfl | rfl | rfl | rfl | rfl | rfl | rfl | rfl | rfl | rfl | rfl | rfl | rfl | rfl <;> decide
theorem pnj_8 : plainName "java/lang/StringUTF16" = true := by first | (simp [plainName, overriddenIn]; done) | decide +kernel
theorem efj_rm_coderOf (m : MethodId) (a1 : Addr) (n : Nat) : entryFrame m #[(.ref a1), (.int (Int32.ofNat n))] 2 = mkF m 0 #[.val (.ref a1), .val (.int (Int32.ofNat n))] [] := by first | (simp [entryFrame, mkF, argsToLocals, Value.category]; done) | rfl
theorem d8_0 : Dc c21 0 (.iload_n 1) 1 := by decide +kernel
theorem d8_1 : Dc c21 1 (.aload_n 0) 1 := by decide +kernel
theorem d8_2 : Dc c21 2 (.arraylength) 1 := by decide +kernel
theorem d8_3 : Dc c21 3 (.isub) 1 := by decide +kernel
theorem d8_4 : Dc c21 4 (.bipush 31) 2 := by decide +kernel
theorem d8_6 : Dc c21 6 (.iushr) 1 := by decide +kernel
theorem d8_7 : Dc c21 7 (.i2b) 1 := by decide +kernel
theorem d8_8 : Dc c21 8 (.ireturn) 1 := by decide +kernel
def Q_rm_coderOf (Z : State) (a1 : Addr) (n : Nat) (k : ClassId) (vs : List Value) (h0 : Heap) (n0 : Nat) (v : Option Value) (h : Heap) (L : List Loc) : Prop := v = some (.int (1 : Int32)) ∧ Fr n0 L ∧ h = h0
theorem rm_coderOf (l : Launch) (Z : State) (a0 : Array Value) (hw : Hw a0 Z) (ws : List Jvm.Cond) (a1 : Addr) (n : Nat) (k : ClassId) (vs : List Value) (h0 : Heap) (n0 : Nat) (Z0 : n0 ≤ h0.size) (V_a1 : Arv Z h0 a1 k .byte (Int32.ofNat (2 * n)) vs (.int (0 : Int32))) (h1n : 1 ≤ n) (hn11 : n ≤ 21) :
    MF l y17_ jdk_52_method_15_code 2 (some .byte) ws (rM 0 0 0 0) #[(.ref a1), (.int (Int32.ofNat n))] Z h0 (Q_rm_coderOf Z a1 n k vs h0 n0) := by
  refine own_bodyF n0 (plainFor_of_name pnj_8) (fun m => efj_rm_coderOf m a1 n) ?_
  intro p e s m below meth c s₁ S0 hx hby hml hZ hown hnm hret hlk X0 e0 hh N0 hK go0
  have go1 : Go p e below s₁ (mkF m 2 #[.val (.ref a1), .val (.int (Int32.ofNat n))] [(.ref a1), (.int (Int32.ofNat n))]) S0 := by
    intro tt kt
    refine go0 tt ?_
    refine XS.iloadN X0.here hx rfl (hb hby d8_0) rfl ?_
    refine XS.aloadN X0.here hx rfl (hb hby d8_1) rfl rfl ?_
    exact kt
  obtain ⟨cl2, Ar2, q2, S2, N2, H2, G2⟩ := id V_a1
  have go3 : Go p e below s₁ (mkF m 8 #[.val (.ref a1), .val (.int (Int32.ofNat n))] [(.int (((((Int32.ofNat n) - (Int32.ofNat (2 * n))).toUInt32 >>> ((31 : Int32) &&& 31).toUInt32).toInt32).toInt8.toInt32))]) S0 := by
    intro tt kt
    refine go1 tt ?_
    refine X0.arraylength hx (by rw [e0]; exact Ar2.1) (State.isArrayOf_alike hZ.alike Ar2.2.1) (g := (mkF m 2 #[.val (.ref a1), .val (.int (Int32.ofNat n))] [(.ref a1), (.int (Int32.ofNat n))])) rfl rfl (hb hby d8_2) _ ?_
    rw [len_of S2 N2]
    refine XS.isub X0.here hx rfl (hb hby d8_3) rfl ?_
    refine XS.bipush X0.here hx rfl (hb hby d8_4) ?_
    refine XS.iushr X0.here hx rfl (hb hby d8_6) rfl ?_
    refine XS.i2b X0.here hx rfl (hb hby d8_7) rfl ?_
    exact kt
  exact own_leaveN (t := .byte) (by simp) X0 hx hret hlk (hb hby d8_8) go3 e0 (⟨by rw [own_ce n h1n hn11], N0, rfl⟩) (by decide) (by decide)
def OldE (Z : State) (h : Heap) : Prop := Ext Z.heap h
theorem own_et {a b c : Heap} (h : Ext a b) (k : Ext b c) : Ext a c := ⟨Nat.le_trans h.1 k.1, fun x q r => k.2 x q (h.2 x q r)⟩
theorem OldE.ext {Z : State} {h h' : Heap} (O : OldE Z h) (E : Ext h h') : OldE Z h' := own_et O E
theorem oL {a b n : Nat} (h : b < n) (k : n ≤ a) : a ≠ b := by omega
theorem oR {a b n : Nat} (h : b < n) (k : n ≤ a) : b ≠ a := by omega
theorem oA {Z : State} {h : Heap} {a : Addr} {k : ClassId} {ty : FieldType} {z : Int32} {l l' : List Value} {d : Value} (A : Arv Z h a k ty z l d) (e : l = l') : Arv Z h a k ty z l' d := e ▸ A
theorem own_c0 : (0 : Int32).toNatClampNeg = 0 := rfl
theorem own_selP {s : State} {args : Array Value} {y : MethodName} {C : String} (h : (Cond.selects C y y).before args s = true) (hp : s.PrivateAt y) (hi : (Cond.instanceMethod y).before args s = true) (hy : y.cls ≠ "java/lang/invoke/MethodHandle" ∧ y.cls ≠ "java/lang/invoke/VarHandle") : (Cond.selects y.cls y y).before args s = true := by
  obtain ⟨c2, r2, m2, -, -, q3, -, kP, hkP, hkPi⟩ := Cond.selects_spec h
  exact selects_self_of_private (findClass_of_methodNamed q3) hkP hkPi hp hi hy
theorem own_nf {s : State} {args : Array Value} {y z : MethodName} {C : String} (h : (Cond.selects C z z).before args s = true) (e : z.cls = y.cls) : NotFace s y := fun r0 h0 => by
  obtain ⟨c2, r2, m2, -, -, q3, -, kP, hkP, hkPi⟩ := Cond.selects_spec h
  have h1 := findClass_of_methodNamed q3
  have h2 := findClass_of_methodNamed h0
  rw [e] at h1
  have h3 : m2.cls = r0.cls := Option.some.inj (h1.symm.trans h2)
  exact ⟨kP, h3 ▸ hkP, hkPi⟩
theorem own_same {s : State} {args : Array Value} {y z : MethodName} {C : String} (hd : (Cond.declares y).before args s = true) (h : (Cond.selects C z z).before args s = true) (e : z.cls = y.cls) (hy : y.cls ≠ "java/lang/invoke/MethodHandle" ∧ y.cls ≠ "java/lang/invoke/VarHandle") : (Cond.sameMethod y.cls y.cls y.name y.desc).before args s = true := by
  obtain ⟨r0, r, hn, -, -, -⟩ := Cond.declares_spec hd
  obtain ⟨kr, hk, hki⟩ := own_nf (y := y) h e r0 hn
  have hc := findClass_of_methodNamed hn
  have hf : s.methodFound? y.cls y.name y.desc = some r0 := State.methodFound?_of_named hn hy
  have hn' : s.methodNamed? ⟨y.cls, y.name, y.desc⟩ = some r0 := hn
  simp only [Cond.before, Cond.holds, Cond.value, hc, hf, hn']
  simp [hk, hki]
def own_P : List Int32 := [(109 : Int32), (97 : Int32), (108 : Int32), (102 : Int32), (111 : Int32), (114 : Int32), (109 : Int32), (101 : Int32), (100 : Int32), (32 : Int32), (115 : Int32), (116 : Int32), (97 : Int32), (116 : Int32), (101 : Int32), (58 : Int32), (32 : Int32)]
def own_lb (c : Int32) : Int32 := nar .byte (c.toInt8.toInt32)
def own_la (cs : List Int32) : List Value := cs.map fun c => Value.int (own_lb c)
def own_u16 : List Int32 → List Value
  | [] => []
  | c :: r => .int (own_hi c) :: .int (own_lo c) :: own_u16 r
def own_q (cs : List Int32) : Bool := cs.all fun c => decide (¬ (255 : Int32) < c)
def own_k (cs : List Int32) : Int32 := if own_q cs = true then 0 else 1
def own_b (cs : List Int32) : List Value := if own_q cs = true then own_la cs else own_u16 cs
def own_PB : List Value := own_la own_P
def own_PU : List Value := own_u16 own_P
theorem own_PBl : own_PB.length = 17 := rfl
theorem own_PUl : own_PU.length = 34 := rfl
theorem own_la_len (cs : List Int32) : (own_la cs).length = cs.length := by simp [own_la]
theorem own_u16_len : ∀ cs : List Int32, (own_u16 cs).length = 2 * cs.length
  | [] => rfl
  | c :: r => by simp only [own_u16, List.length_cons, own_u16_len r]; omega
theorem own_u16_app : ∀ a b : List Int32, own_u16 (a ++ b) = own_u16 a ++ own_u16 b
  | [], _ => rfl
  | c :: r, b => by simp only [List.cons_append, own_u16, own_u16_app r b]
theorem own_u16_get : ∀ (cs : List Int32) (i : Nat), i < cs.length → (own_u16 cs)[2 * i]? = some (.int (own_hi (cs.getD i 0))) ∧ (own_u16 cs)[2 * i + 1]? = some (.int (own_lo (cs.getD i 0)))
  | [], _, h => by simp at h
  | c :: r, 0, _ => ⟨rfl, rfl⟩
  | c :: r, i + 1, h => by
    have q := own_u16_get r i (by simpa using h)
    rw [show 2 * (i + 1) = 2 * i + 1 + 1 by omega]
    simpa [own_u16] using q
theorem own_key {l : List Value} {m : Nat} {x dv : Value} (h : m < l.length) (e : l.getD m dv = x) : l[m]? = some x := by
  rw [List.getD_eq_getElem?_getD, List.getElem?_eq_getElem h] at e
  rw [List.getElem?_eq_getElem h]; exact congrArg some e
theorem own_puts_u16 (cs : List Int32) : own_puts cs 0 cs.length (List.replicate (2 * cs.length) (.int (0 : Int32))) = own_u16 cs := by
  apply List.ext_getElem?
  intro m
  have hl := own_puts_len cs cs.length 0 (List.replicate (2 * cs.length) (.int (0 : Int32)))
  rw [List.length_replicate] at hl
  by_cases hm : m < 2 * cs.length
  · have hg := own_puts_get cs (.int (0 : Int32)) cs.length 0 (List.replicate (2 * cs.length) (.int (0 : Int32))) (m / 2) (Nat.zero_le _) (by omega) (by simp)
    have hu := own_u16_get cs (m / 2) (by omega)
    rcases Nat.mod_two_eq_zero_or_one m with h0 | h1
    · have e : 2 * (m / 2) = m := by omega
      rw [e] at hg hu
      exact (own_key (by omega) hg.1).trans hu.1.symm
    · have e : 2 * (m / 2) + 1 = m := by omega
      rw [e] at hg hu
      exact (own_key (by omega) hg.2).trans hu.2.symm
  · rw [List.getElem?_eq_none (by omega), List.getElem?_eq_none (by rw [own_u16_len]; omega)]
def own_lats (cs : List Int32) : Nat → Nat → List Value → List Value
  | _, 0, vs => vs
  | j, d + 1, vs => own_lats cs (j + 1) d (vs.set j (.int (nar .byte ((cs.getD j 0).toInt8.toInt32))))
theorem own_lats_len (cs : List Int32) : ∀ d j vs, (own_lats cs j d vs).length = vs.length
  | 0, _, _ => rfl
  | d + 1, j, vs => by rw [own_lats, own_lats_len cs d]; simp
theorem own_lats_low (cs : List Int32) : ∀ d j vs m, m < j → (own_lats cs j d vs)[m]? = vs[m]?
  | 0, _, _, _, _ => rfl
  | d + 1, j, vs, m, h => by rw [own_lats, own_lats_low cs d (j + 1) _ m (by omega), List.getElem?_set_ne (by omega)]
theorem own_lats_get (cs : List Int32) : ∀ d j vs i, j ≤ i → i < j + d → j + d ≤ vs.length → (own_lats cs j d vs)[i]? = some (.int (own_lb (cs.getD i 0)))
  | 0, j, vs, i, h1, h2, _ => by omega
  | d + 1, j, vs, i, h1, h2, h3 => by
    rw [own_lats]
    by_cases q : i = j
    · subst q
      rw [own_lats_low cs d (i + 1) _ i (by omega), List.getElem?_set_self (by omega)]; rfl
    · exact own_lats_get cs d (j + 1) _ i (by omega) (by omega) (by simp only [List.length_set]; omega)
theorem own_lats_la (cs : List Int32) : own_lats cs 0 cs.length (List.replicate cs.length (.int (0 : Int32))) = own_la cs := by
  apply List.ext_getElem?
  intro m
  by_cases hm : m < cs.length
  · rw [own_lats_get cs cs.length 0 _ m (Nat.zero_le _) (by omega) (by simp)]
    simp [own_la, hm, List.getD_eq_getElem?_getD]
  · rw [List.getElem?_eq_none (by rw [own_lats_len]; simp; omega), List.getElem?_eq_none (by rw [own_la_len]; omega)]
theorem own_q_t {cs : List Int32} (h : ∀ c ∈ cs, ¬ (255 : Int32) < c) : own_q cs = true := by simp only [own_q, List.all_eq_true, decide_eq_true_eq]; exact h
theorem own_q_f {cs : List Int32} {i : Nat} (h1 : i < cs.length) (h2 : (255 : Int32) < cs.getD i 0) : ¬ own_q cs = true := fun hq => by
  simp only [own_q, List.all_eq_true, decide_eq_true_eq] at hq
  exact hq _ (by rw [List.getD_eq_getElem?_getD, List.getElem?_eq_getElem h1]; exact List.getElem_mem h1) h2
theorem own_first (cs : List Int32) : (∀ c ∈ cs, ¬ (255 : Int32) < c) ∨ ∃ i, i < cs.length ∧ (∀ x, x < i → ¬ (255 : Int32) < cs.getD x 0) ∧ (255 : Int32) < cs.getD i 0 := by
  induction cs with
  | nil => exact Or.inl (by simp)
  | cons c r ih =>
    by_cases hc : (255 : Int32) < c
    · exact Or.inr ⟨0, by simp, by simp, by simpa using hc⟩
    · rcases ih with h | ⟨i, h1, h2, h3⟩
      · exact Or.inl (by intro d hd; rcases List.mem_cons.mp hd with rfl | q; exact hc; exact h d q)
      · refine Or.inr ⟨i + 1, by simpa using h1, ?_, by simpa using h3⟩
        intro x hx
        cases x with
        | zero => simpa using hc
        | succ y => simpa using h2 y (by omega)
theorem own_gmem {cs : List Int32} {x : Nat} (h : x < cs.length) : cs.getD x 0 ∈ cs := by rw [List.getD_eq_getElem?_getD, List.getElem?_eq_getElem h]; exact List.getElem_mem h
def Bs (Z : State) (h : Heap) (a : Addr) (k : Int32) (vs : List Value) : Prop := ∃ (t : Addr) (kb : ClassId), Exa Z h a "java/lang/String" ∧ Fld Z h a "java/lang/String" "coder" "B" (.int k) ∧ Fld Z h a "java/lang/String" "value" "[B" (.ref t) ∧ Arv Z h t kb .byte (Int32.ofNat vs.length) vs (.int (0 : Int32))
theorem Bs.ext {Z : State} {h h' : Heap} {a : Addr} {k : Int32} {vs : List Value} (F : Bs Z h a k vs) (E : Ext h h') : Bs Z h' a k vs := by
  obtain ⟨t, kb, f1, f2, f3, f4⟩ := F
  exact ⟨t, kb, f1.ext E, f2.ext E, f3.ext E, f4.ext E⟩
def Bn (Z : State) (h : Heap) (m : Nat) (a : Addr) (k : Int32) (vs : List Value) : Prop := ∃ (t : Addr) (kb : ClassId), m ≤ t ∧ Exa Z h a "java/lang/String" ∧ Fld Z h a "java/lang/String" "coder" "B" (.int k) ∧ Fld Z h a "java/lang/String" "value" "[B" (.ref t) ∧ Arv Z h t kb .byte (Int32.ofNat vs.length) vs (.int (0 : Int32))
theorem Bn.mono {Z : State} {h : Heap} {m m' : Nat} {a : Addr} {k : Int32} {vs : List Value} (F : Bn Z h m a k vs) (q : m' ≤ m) : Bn Z h m' a k vs := by obtain ⟨t, kb, f0, f⟩ := F; exact ⟨t, kb, Nat.le_trans q f0, f⟩
theorem own_mkL {Z : State} {h : Heap} {u : Addr} {k : ClassId} {n : Nat} {cs : List Int32} (A : Arv Z h u k .byte (Int32.ofNat n) (own_lats cs 0 n (List.replicate n (.int (0 : Int32)))) (.int (0 : Int32))) (e : n = cs.length) : Arv Z h u k .byte (Int32.ofNat (own_la cs).length) (own_la cs) (.int (0 : Int32)) := by
  subst e; rw [own_lats_la] at A; rw [own_la_len]; exact A
theorem own_mkU {Z : State} {h : Heap} {u : Addr} {k : ClassId} {n : Nat} {cs : List Int32} (A : Arv Z h u k .byte (Int32.ofNat (2 * n)) (own_puts cs 0 n (List.replicate (2 * n) (.int (0 : Int32)))) (.int (0 : Int32))) (e : n = cs.length) : Arv Z h u k .byte (Int32.ofNat (own_u16 cs).length) (own_u16 cs) (.int (0 : Int32)) := by
  subst e; rw [own_puts_u16] at A; rw [own_u16_len]; exact A
theorem own_rng (vs : List Value) (dv : Value) (m : Nat) (h : m ≤ vs.length) : vs.take m = (List.range m).map fun i => vs.getD (0 + i) dv := by
  apply List.ext_getElem?
  intro i
  by_cases q : i < m
  · simp [List.getElem?_take, q, List.getElem?_eq_getElem (show i < vs.length by omega)]
  · rw [List.getElem?_eq_none (by rw [List.length_take]; omega), List.getElem?_eq_none (by simp; omega)]
theorem own_int_la (cs : List Int32) : ∀ x ∈ own_la cs, ∃ b, x = .int b := fun x hx => by
  obtain ⟨c, -, rfl⟩ := List.mem_map.mp hx; exact ⟨_, rfl⟩
theorem own_int_u16 : ∀ (cs : List Int32), ∀ x ∈ own_u16 cs, ∃ b, x = .int b
  | [], x, hx => by simp [own_u16] at hx
  | c :: r, x, hx => by
    simp only [own_u16, List.mem_cons] at hx
    rcases hx with rfl | rfl | hx
    · exact ⟨_, rfl⟩
    · exact ⟨_, rfl⟩
    · exact own_int_u16 r x hx
theorem own_int_b (cs : List Int32) : ∀ x ∈ own_b cs, ∃ b, x = .int b := by
  unfold own_b; split
  · exact own_int_la cs
  · exact own_int_u16 cs
theorem own_b_len (cs : List Int32) : (own_b cs).length = if own_q cs = true then cs.length else 2 * cs.length := by
  unfold own_b; split
  · exact own_la_len cs
  · exact own_u16_len cs
theorem own_q_app (a b : List Int32) : own_q (a ++ b) = (own_q a && own_q b) := by simp [own_q, List.all_append]
theorem own_qP : own_q own_P = true := by decide
theorem own_kP (cs : List Int32) : own_k (own_P ++ cs) = own_k cs := by rw [own_k, own_k, own_q_app, own_qP, Bool.true_and]
theorem own_bP (cs : List Int32) : own_b (own_P ++ cs) = (if own_q cs = true then own_PB else own_PU) ++ own_b cs := by
  rw [own_b, own_b, own_q_app, own_qP, Bool.true_and]
  split
  · simp [own_la, own_PB]
  · exact own_u16_app own_P cs
set_option maxRecDepth 65536 in
set_option maxHeartbeats 40000000 in
theorem own_loopCL {p : Program} {l : Launch} {e : Env} {s : State} {m : MethodId} {args : Array Value} {below : List Frame} {meth : Method} {c : Code} {Z : State} {n0 n : Nat} {a1 b : Addr} {k1 kb : ClassId} {cs : List Int32} (hx : p.tables.exec = Jvm.exec) (hZ : Z.Warmed39 s.vm) (hby : c.code = jdk_52_method_21_code) (hn : n = cs.length) (hn11 : n ≤ 21) (hlo : ∀ x, x < n → ¬ (255 : Int32) < cs.getD x 0) (g_b : n0 ≤ b) (ne_a1_b : a1 ≠ b) :
    ∀ (d j : Nat), j + d = n → ∀ (T0 : State) (h0 : Heap) (locs : List Loc) (vs : List Value) (s6 : Slot), (s6 = .unset ∨ ∃ x : Int32, s6 = .val (.int x)) → Stand p l e ({ frames := 0, cells := 0, slots := 0, locals := 0 } : Room) s m args below meth c T0 locs 0 0 → T0.heap = h0 → n0 ≤ h0.size → Arv Z h0 a1 k1 .char (Int32.ofNat n) (cs.map Value.int) (.int (0 : Int32)) → Arv Z h0 b kb .byte (Int32.ofNat n) vs (.int (0 : Int32)) → vs.length = n → Fr n0 locs →
      ∃ (T1 : State) (h1 : Heap) (locs1 : List Loc) (s6x : Slot), Stand p l e ({ frames := 0, cells := 0, slots := 0, locals := 0 } : Room) s m args below meth c T1 locs1 0 0 ∧ T1.heap = h1 ∧ Fr n0 locs1 ∧ Keep h0 h1 [b] ∧ Arv Z h1 b kb .byte (Int32.ofNat n) (own_lats cs j d vs) (.int (0 : Int32)) ∧ ∀ t, Steps p.tables e below (T1.setTop (mkF m 44 #[.val (.ref a1), .val (.int (Int32.ofNat n)), .val (.ref b), .val (.int (Int32.ofNat n)), .val (.int (Int32.ofNat n)), .val (.int (Int32.ofNat n)), s6x] [])) t → Steps p.tables e below (T0.setTop (mkF m 3 #[.val (.ref a1), .val (.int (Int32.ofNat j)), .val (.ref b), .val (.int (Int32.ofNat j)), .val (.int (Int32.ofNat n)), .val (.int (Int32.ofNat j)), s6] [])) t := by
  intro d
  induction d with
  | zero =>
    intro j hj T0 h0 locs vs s6 hs6 X0 e0 Z0 V_a1 V_b hvl N0
    obtain rfl : j = n := by omega
    have go0 : Go p e below T0 (mkF m 3 #[.val (.ref a1), .val (.int (Int32.ofNat j)), .val (.ref b), .val (.int (Int32.ofNat j)), .val (.int (Int32.ofNat j)), .val (.int (Int32.ofNat j)), s6] []) (T0.setTop (mkF m 3 #[.val (.ref a1), .val (.int (Int32.ofNat j)), .val (.ref b), .val (.int (Int32.ofNat j)), .val (.int (Int32.ofNat j)), .val (.int (Int32.ofNat j)), s6] [])) := fun t k => k
    generalize (T0.setTop (mkF m 3 #[.val (.ref a1), .val (.int (Int32.ofNat j)), .val (.ref b), .val (.int (Int32.ofNat j)), .val (.int (Int32.ofNat j)), .val (.int (Int32.ofNat j)), s6] [])) = S0 at go0 ⊢
    have go1 : Go p e below T0 (mkF m 44 #[.val (.ref a1), .val (.int (Int32.ofNat j)), .val (.ref b), .val (.int (Int32.ofNat j)), .val (.int (Int32.ofNat j)), .val (.int (Int32.ofNat j)), s6] []) S0 := by
      intro tt kt
      refine go0 tt ?_
      refine XS.iload X0.here hx rfl (hb hby d6_3) rfl ?_
      refine XS.iload X0.here hx rfl (hb hby d6_5) rfl ?_
      refine XS.icmpYes X0.here hx rfl (pc0 := 7) (pc' := 44) rfl (hb hby d6_7) rfl (flt (own_nltN (Nat.le_refl _) (by omega))).2.1 (by decide) (by decide) ?_
      exact kt
    exact ⟨T0, h0, locs, s6, X0, e0, N0, Keep.refl h0 [b], V_b, go1⟩
  | succ d ih =>
    intro j hj T0 h0 locs vs s6 hs6 X0 e0 Z0 V_a1 V_b hvl N0
    have K0 : Keep h0 h0 [b] := Keep.refl h0 [b]
    have hz : (Int32.ofNat n).toNatClampNeg = vs.length := by rw [oC (by omega), hvl]
    have go0 : Go p e below T0 (mkF m 3 #[.val (.ref a1), .val (.int (Int32.ofNat j)), .val (.ref b), .val (.int (Int32.ofNat j)), .val (.int (Int32.ofNat n)), .val (.int (Int32.ofNat j)), s6] []) (T0.setTop (mkF m 3 #[.val (.ref a1), .val (.int (Int32.ofNat j)), .val (.ref b), .val (.int (Int32.ofNat j)), .val (.int (Int32.ofNat n)), .val (.int (Int32.ofNat j)), s6] [])) := fun t k => k
    generalize (T0.setTop (mkF m 3 #[.val (.ref a1), .val (.int (Int32.ofNat j)), .val (.ref b), .val (.int (Int32.ofNat j)), .val (.int (Int32.ofNat n)), .val (.int (Int32.ofNat j)), s6] [])) = S0 at go0 ⊢
    have go2 : Go p e below T0 (mkF m 12 #[.val (.ref a1), .val (.int (Int32.ofNat j)), .val (.ref b), .val (.int (Int32.ofNat j)), .val (.int (Int32.ofNat n)), .val (.int (Int32.ofNat j)), s6] [(.int (Int32.ofNat j)), (.ref a1)]) S0 := by
      intro tt kt
      refine go0 tt ?_
      refine XS.iload X0.here hx rfl (hb hby d6_3) rfl ?_
      refine XS.iload X0.here hx rfl (hb hby d6_5) rfl ?_
      refine XS.icmpNo X0.here hx rfl (hb hby d6_7) rfl (tlt (own_ltN (by omega) (by omega))).2.1 ?_
      refine XS.aloadN X0.here hx rfl (hb hby d6_10) rfl rfl ?_
      refine XS.iloadN X0.here hx rfl (hb hby d6_11) rfl ?_
      exact kt
    obtain ⟨cl3, Ar3, q3, S3, N3, H3, G3⟩ := id V_a1
    have go4 : Go p e below T0 (mkF m 13 #[.val (.ref a1), .val (.int (Int32.ofNat j)), .val (.ref b), .val (.int (Int32.ofNat j)), .val (.int (Int32.ofNat n)), .val (.int (Int32.ofNat j)), s6] [(.int (cs.getD j 0))]) S0 := by
      intro tt kt
      refine go2 tt ?_
      refine X0.caload hx (j := Int32.ofNat j) (v := .int (cs.getD j 0)) (by rw [e0]; exact Ar3.1) (State.isArrayOf_alike hZ.alike Ar3.2.1) Ar3.2.2 (fun q => q.elim (oN (by omega)) fun q => by rw [S3, oC (by omega), oC (by omega)] at q; omega) (by rw [oC (by omega), H3 _ (by rw [S3, oC (by omega)]; omega)]; exact congrArg some (own_getD cs j (by omega))) (g := (mkF m 12 #[.val (.ref a1), .val (.int (Int32.ofNat j)), .val (.ref b), .val (.int (Int32.ofNat j)), .val (.int (Int32.ofNat n)), .val (.int (Int32.ofNat j)), s6] [(.int (Int32.ofNat j)), (.ref a1)])) rfl rfl (hb hby d6_12) _ ?_
      exact kt
    have hst : storeLocals #[.val (.ref a1), .val (.int (Int32.ofNat j)), .val (.ref b), .val (.int (Int32.ofNat j)), .val (.int (Int32.ofNat n)), .val (.int (Int32.ofNat j)), s6] 6 (.int (cs.getD j 0)) = some #[.val (.ref a1), .val (.int (Int32.ofNat j)), .val (.ref b), .val (.int (Int32.ofNat j)), .val (.int (Int32.ofNat n)), .val (.int (Int32.ofNat j)), .val (.int (cs.getD j 0))] := by rcases hs6 with rfl | ⟨x, rfl⟩ <;> rfl
    have go5 : Go p e below T0 (mkF m 31 #[.val (.ref a1), .val (.int (Int32.ofNat j)), .val (.ref b), .val (.int (Int32.ofNat j)), .val (.int (Int32.ofNat n)), .val (.int (Int32.ofNat j)), .val (.int (cs.getD j 0))] [(.int ((cs.getD j 0).toInt8.toInt32)), (.int (Int32.ofNat j)), (.ref b)]) S0 := by
      intro tt kt
      refine go4 tt ?_
      refine XS.istore X0.here hx rfl (hb hby d6_13) rfl (l' := #[.val (.ref a1), .val (.int (Int32.ofNat j)), .val (.ref b), .val (.int (Int32.ofNat j)), .val (.int (Int32.ofNat n)), .val (.int (Int32.ofNat j)), .val (.int (cs.getD j 0))]) hst ?_
      refine XS.iload X0.here hx rfl (hb hby d6_15) rfl ?_
      refine XS.sipush X0.here hx rfl (hb hby d6_17) ?_
      refine XS.icmpYes X0.here hx rfl (pc0 := 20) (pc' := 26) rfl (hb hby d6_20) rfl (flt (hlo j (by omega))).2.2.2 (by decide) (by decide) ?_
      refine XS.aloadN X0.here hx rfl (hb hby d6_26) rfl rfl ?_
      refine XS.iloadN X0.here hx rfl (hb hby d6_27) rfl ?_
      refine XS.iload X0.here hx rfl (hb hby d6_28) rfl ?_
      refine XS.i2b X0.here hx rfl (hb hby d6_30) rfl ?_
      exact kt
    obtain ⟨cl6, Ar6, q6, S6, N6, H6, G6⟩ := V_b
    obtain ⟨T6, h6, X6, e6, W6, st6⟩ := stB X0 hx hZ e0 Ar6 (j := (Int32.ofNat j)) (fun q => q.elim (oN (by omega)) fun q => by rw [S6, hz, (oC (n := j) (by omega))] at q; omega) (g := (mkF m 31 #[.val (.ref a1), .val (.int (Int32.ofNat j)), .val (.ref b), .val (.int (Int32.ofNat j)), .val (.int (Int32.ofNat n)), .val (.int (Int32.ofNat j)), .val (.int (cs.getD j 0))] [(.int ((cs.getD j 0).toInt8.toInt32)), (.int (Int32.ofNat j)), (.ref b)])) rfl rfl (hb hby d6_31)
    have V_a1 := V_a1.other W6 ne_a1_b
    have V_b := Arv.set Ar6 q6 S6 N6 H6 G6 (fits_nar_byte _) W6 (j) (oC (n := j) (by omega)) (by first | omega | (simp only [List.length_set]; omega))
    have Z0 := Nat.le_trans Z0 (Keep.of_wr W6).1
    have K0 := K0.wr W6 (Or.inl (List.mem_of_getElem? (i := 0) rfl))
    have N6r := Fr.snoc X6 N0 g_b
    have go7 : Go p e below T6 (mkF m 32 #[.val (.ref a1), .val (.int (Int32.ofNat j)), .val (.ref b), .val (.int (Int32.ofNat j)), .val (.int (Int32.ofNat n)), .val (.int (Int32.ofNat j)), .val (.int (cs.getD j 0))] []) S0 := fun t kt => go5 t (st6 _ kt)
    have go8 : Go p e below T6 (mkF m 3 #[.val (.ref a1), .val (.int ((Int32.ofNat j) + (1 : Int32))), .val (.ref b), .val (.int ((Int32.ofNat j) + (1 : Int32))), .val (.int (Int32.ofNat n)), .val (.int ((Int32.ofNat j) + (1 : Int32))), .val (.int (cs.getD j 0))] []) S0 := by
      intro tt kt
      refine go7 tt ?_
      refine XS.iinc X6.here hx rfl (hb hby d6_32) rfl (l' := #[.val (.ref a1), .val (.int ((Int32.ofNat j) + (1 : Int32))), .val (.ref b), .val (.int (Int32.ofNat j)), .val (.int (Int32.ofNat n)), .val (.int (Int32.ofNat j)), .val (.int (cs.getD j 0))]) rfl ?_
      refine XS.iinc X6.here hx rfl (hb hby d6_35) rfl (l' := #[.val (.ref a1), .val (.int ((Int32.ofNat j) + (1 : Int32))), .val (.ref b), .val (.int ((Int32.ofNat j) + (1 : Int32))), .val (.int (Int32.ofNat n)), .val (.int (Int32.ofNat j)), .val (.int (cs.getD j 0))]) rfl ?_
      refine XS.iinc X6.here hx rfl (hb hby d6_38) rfl (l' := #[.val (.ref a1), .val (.int ((Int32.ofNat j) + (1 : Int32))), .val (.ref b), .val (.int ((Int32.ofNat j) + (1 : Int32))), .val (.int (Int32.ofNat n)), .val (.int ((Int32.ofNat j) + (1 : Int32))), .val (.int (cs.getD j 0))]) rfl ?_
      refine XS.goto X6.here hx rfl (pc0 := 41) (pc' := 3) rfl (hb hby d6_41) (by decide) (by decide) ?_
      exact kt
    have go9 : Go p e below T6 (mkF m 3 #[.val (.ref a1), .val (.int (Int32.ofNat (j + 1))), .val (.ref b), .val (.int (Int32.ofNat (j + 1))), .val (.int (Int32.ofNat n)), .val (.int (Int32.ofNat (j + 1))), .val (.int (cs.getD j 0))] []) S0 := by rw [← own_one]; exact go8
    obtain ⟨T1, h1, locs1, s6x, X1, e1, N1, K1, V1, st1⟩ := ih (j + 1) (by omega) T6 h6 _ _ _ (Or.inr ⟨_, rfl⟩) X6 e6 Z0 V_a1 V_b (by simp only [List.length_set]; exact hvl) N6r
    exact ⟨T1, h1, locs1, s6x, X1, e1, N1, K0.trans K1 (allS (Or.inl (List.mem_singleton.mpr rfl)) all0), V1, fun t kt => go9 t (st1 t kt)⟩
theorem efj_rm_cmpIL (m : MethodId) (a1 : Addr) (b : Addr) (n : Nat) : entryFrame m #[(.ref a1), (.int (0 : Int32)), (.ref b), (.int (0 : Int32)), (.int (Int32.ofNat n))] 7 = mkF m 0 #[.val (.ref a1), .val (.int (0 : Int32)), .val (.ref b), .val (.int (0 : Int32)), .val (.int (Int32.ofNat n)), .unset, .unset] [] := by first | (simp [entryFrame, mkF, argsToLocals, Value.category]; done) | rfl
theorem d6_44 : Dc c23 44 (.iload 4) 2 := by decide +kernel
theorem d6_46 : Dc c23 46 (.ireturn) 1 := by decide +kernel
def Q_rm_cmpIL (Z : State) (a1 : Addr) (b : Addr) (n : Nat) (k1 : ClassId) (kb : ClassId) (cs : List Int32) (vs : List Value) (h0 : Heap) (n0 : Nat) (v : Option Value) (h : Heap) (L : List Loc) : Prop := v = some (.int (Int32.ofNat n)) ∧ Fr n0 L ∧ Keep h0 h [b] ∧ Arv Z h b kb .byte (Int32.ofNat n) (own_lats cs 0 n vs) (.int (0 : Int32))
theorem rm_cmpIL (l : Launch) (Z : State) (a0 : Array Value) (hw : Hw a0 Z) (ws : List Jvm.Cond) (a1 : Addr) (b : Addr) (n : Nat) (k1 : ClassId) (kb : ClassId) (cs : List Int32) (vs : List Value) (h0 : Heap) (n0 : Nat) (Z0 : n0 ≤ h0.size) (hn : n = cs.length) (hn11 : n ≤ 21) (hlo : ∀ x, x < n → ¬ (255 : Int32) < cs.getD x 0) (V_a1 : Arv Z h0 a1 k1 .char (Int32.ofNat n) (cs.map Value.int) (.int (0 : Int32))) (g_b : n0 ≤ b) (ne_a1_b : a1 ≠ b) (V_b : Arv Z h0 b kb .byte (Int32.ofNat n) vs (.int (0 : Int32))) (hvl : vs.length = n) :
    MF l y20_ jdk_52_method_21_code 7 (some .int) ws (rM 0 0 0 0) #[(.ref a1), (.int (0 : Int32)), (.ref b), (.int (0 : Int32)), (.int (Int32.ofNat n))] Z h0 (Q_rm_cmpIL Z a1 b n k1 kb cs vs h0 n0) := by
  refine own_bodyF n0 (plainFor_of_name pnj_6) (fun m => efj_rm_cmpIL m a1 b n) ?_
  intro p e s m below meth c s₁ S0 hx hby hml hZ hown hnm hret hlk X0 e0 hh N0 hK go0
  have go1 : Go p e below s₁ (mkF m 3 #[.val (.ref a1), .val (.int (0 : Int32)), .val (.ref b), .val (.int (0 : Int32)), .val (.int (Int32.ofNat n)), .val (.int (0 : Int32)), .unset] []) S0 := by
    intro tt kt
    refine go0 tt ?_
    refine XS.iconst X0.here hx rfl (hb hby d6_0) ?_
    refine XS.istore X0.here hx rfl (hb hby d6_1) rfl (l' := #[.val (.ref a1), .val (.int (0 : Int32)), .val (.ref b), .val (.int (0 : Int32)), .val (.int (Int32.ofNat n)), .val (.int (0 : Int32)), .unset]) rfl ?_
    exact kt
  obtain ⟨T1, h1, locs1, s6x, X1, e1, N1, K1, V1, st1⟩ := own_loopCL hx hZ hby hn hn11 hlo g_b ne_a1_b n 0 (by omega) s₁ h0 _ vs _ (Or.inl rfl) X0 e0 Z0 V_a1 V_b hvl N0
  have go2 : Go p e below T1 (mkF m 44 #[.val (.ref a1), .val (.int (Int32.ofNat n)), .val (.ref b), .val (.int (Int32.ofNat n)), .val (.int (Int32.ofNat n)), .val (.int (Int32.ofNat n)), s6x] []) S0 := fun t kt => go1 t (st1 t kt)
  have go3 : Go p e below T1 (mkF m 46 #[.val (.ref a1), .val (.int (Int32.ofNat n)), .val (.ref b), .val (.int (Int32.ofNat n)), .val (.int (Int32.ofNat n)), .val (.int (Int32.ofNat n)), s6x] [(.int (Int32.ofNat n))]) S0 := by
    intro tt kt
    refine go2 tt ?_
    refine XS.iload X1.here hx rfl (hb hby d6_44) rfl ?_
    exact kt
  exact own_leaveI X1 hx hret hlk (hb hby d6_46) go3 e1 (⟨rfl, N1, K1, V1⟩) (by decide) (by decide)
theorem efj_rm_cmpL (m : MethodId) (a1 : Addr) (n : Nat) : entryFrame m #[(.ref a1), (.int (0 : Int32)), (.int (Int32.ofNat n))] 6 = mkF m 0 #[.val (.ref a1), .val (.int (0 : Int32)), .val (.int (Int32.ofNat n)), .unset, .unset, .unset] [] := by first | (simp [entryFrame, mkF, argsToLocals, Value.category]; done) | rfl
theorem d7_57 : Dc c22 57 (.aload_n 3) 1 := by decide +kernel
theorem d7_58 : Dc c22 58 (.areturn) 1 := by decide +kernel
def Q_rm_cmpL (Z : State) (a1 : Addr) (n : Nat) (k1 : ClassId) (cs : List Int32) (h0 : Heap) (n0 : Nat) (v : Option Value) (h : Heap) (L : List Loc) : Prop := ∃ (u : Addr) (k : ClassId), v = some (.ref u) ∧ Fr n0 L ∧ Ext h0 h ∧ Arv Z h u k .byte (Int32.ofNat n) (own_lats cs 0 n (List.replicate n (.int (0 : Int32)))) (.int (0 : Int32)) ∧ h0.size ≤ u
theorem rm_cmpL (l : Launch) (Z : State) (a0 : Array Value) (hw : Hw a0 Z) (ws : List Jvm.Cond) (a1 : Addr) (n : Nat) (k1 : ClassId) (cs : List Int32) (h0 : Heap) (n0 : Nat) (Z0 : n0 ≤ h0.size) (hn : n = cs.length) (hn11 : n ≤ 21) (hlo : ∀ x, x < n → ¬ (255 : Int32) < cs.getD x 0) (V_a1 : Arv Z h0 a1 k1 .char (Int32.ofNat n) (cs.map Value.int) (.int (0 : Int32))) :
    MF l y18_ jdk_52_method_16_code 6 (some (.array .byte)) ws (rM 1 1 21 18) #[(.ref a1), (.int (0 : Int32)), (.int (Int32.ofNat n))] Z h0 (Q_rm_cmpL Z a1 n k1 cs h0 n0) := by
  refine own_bodyF n0 (plainFor_of_name pnj_7) (fun m => efj_rm_cmpL m a1 n) ?_
  intro p e s m below meth c s₁ S0 hx hby hml hZ hown hnm hret hlk X0 e0 hh N0 hK go0
  have K0 : Keep h0 h0 [] := Keep.refl h0 []
  have go1 : Go p e below s₁ (mkF m 1 #[.val (.ref a1), .val (.int (0 : Int32)), .val (.int (Int32.ofNat n)), .unset, .unset, .unset] [(.int (Int32.ofNat n))]) S0 := by
    intro tt kt
    refine go0 tt ?_
    refine XS.iloadN X0.here hx rfl (hb hby d7_0) rfl ?_
    exact kt
  obtain ⟨T2, h2, k2, X2, e2, E2, A2, st2⟩ := newP X0 hx hZ (wi hw 16 rfl) e0 (g := (mkF m 1 #[.val (.ref a1), .val (.int (0 : Int32)), .val (.int (Int32.ofNat n)), .unset, .unset, .unset] [(.int (Int32.ofNat n))])) rfl (hb hby d7_1) rfl (oN (by omega)) (cap := 21) (by rw [oC (by omega)]; exact hn11) (by decide) (by decide) (by decide)
  obtain ⟨b, g2⟩ : ∃ z, z = h0.size := ⟨_, rfl⟩
  rw [← g2] at A2 st2
  have g_b : n0 ≤ b := Nat.le_trans Z0 (Nat.le_of_eq g2.symm)
  have sz_b : h0.size ≤ b := Nat.le_trans K0.1 (Nat.le_of_eq g2.symm)
  have ne_a1_b : a1 ≠ b := Nat.ne_of_lt (Nat.lt_of_lt_of_le V_a1.lt (Nat.le_of_eq g2.symm))
  have V_a1 := V_a1.ext E2
  have Z0 := Nat.le_trans Z0 E2.1
  have K0 := K0.ext E2
  have go3 : Go p e below T2 (mkF m 3 #[.val (.ref a1), .val (.int (0 : Int32)), .val (.int (Int32.ofNat n)), .unset, .unset, .unset] [(.ref b)]) S0 := fun t kt => go1 t (st2 _ kt)
  have V_b : Arv Z h2 b k2 .byte (Int32.ofNat (n)) (List.replicate (n) (.int (0 : Int32))) (.int (0 : Int32)) := (Arv.new A2 (oN (by omega))).pad (pad_rep [] (.int (0 : Int32)) (n))
  have go4 : Go p e below T2 (mkF m 9 #[.val (.ref a1), .val (.int (0 : Int32)), .val (.int (Int32.ofNat n)), .val (.ref b), .unset, .unset] [(.int (Int32.ofNat n)), (.int (0 : Int32)), (.ref b), (.int (0 : Int32)), (.ref a1)]) S0 := by
    intro tt kt
    refine go3 tt ?_
    refine XS.astoreN X2.here hx rfl (hb hby d7_3) rfl rfl (l' := #[.val (.ref a1), .val (.int (0 : Int32)), .val (.int (Int32.ofNat n)), .val (.ref b), .unset, .unset]) rfl ?_
    refine XS.aloadN X2.here hx rfl (hb hby d7_4) rfl rfl ?_
    refine XS.iloadN X2.here hx rfl (hb hby d7_5) rfl ?_
    refine XS.aloadN X2.here hx rfl (hb hby d7_6) rfl rfl ?_
    refine XS.iconst X2.here hx rfl (hb hby d7_7) ?_
    refine XS.iloadN X2.here hx rfl (hb hby d7_8) rfl ?_
    exact kt
  obtain ⟨_, _, ⟨T5, L5, k5, n5⟩, -, X5, ⟨Lc5, hQ5, l5, y5, z5⟩, st5⟩ := Jvm.LawKit.callS X2 hx (y := y20_) hown (mvT hZ (wi hw 51 rfl)) (mvT hZ (wi hw 52 rfl)) (mvT hZ (wi hw 49 rfl)) (mvT hZ (wi hw 53 rfl)) (by decide) (backOf (W := 0) (rm_cmpIL l Z a0 hw [] a1 b n k1 k2 cs _ h2 n0 Z0 hn hn11 hlo V_a1 g_b ne_a1_b V_b (by simp)) hZ (wi hw 53 rfl) (wi hw 49 rfl) (by decide) (by decide)) (g := (mkF m 9 #[.val (.ref a1), .val (.int (0 : Int32)), .val (.int (Int32.ofNat n)), .val (.ref b), .unset, .unset] [(.int (Int32.ofNat n)), (.int (0 : Int32)), (.ref b), (.int (0 : Int32)), (.ref a1)])) rfl (by rw [hml]; rfl) (argsL := [(.ref a1), (.int (0 : Int32)), (.ref b), (.int (0 : Int32)), (.int (Int32.ofNat n))]) (rest := []) (lenOf pd14_ rfl) rfl (by show 2 * 0 + _ ≤ _; exact Nat.le_of_eq rfl) (hb hby d7_9) (fun _ _ => ⟨rfl, e2, (by decide : 1 + 0 ≤ _), (by decide : 21 + 0 ≤ _)⟩)
  dsimp only [Pt.U, Pt.locs, Pt.cells, Pt.slots] at X5 l5 y5 z5 st5 hQ5
  subst l5 y5 z5
  obtain ⟨rfl, N5q, K5, V5⟩ := hQ5
  have K0 := K0.trans K5 (allS (Or.inr sz_b) all0)
  have N5 := Fr.app N0 N5q
  have go6 : Go p e below T5 (mkF m 12 #[.val (.ref a1), .val (.int (0 : Int32)), .val (.int (Int32.ofNat n)), .val (.ref b), .unset, .unset] [(.int (Int32.ofNat n))]) S0 := fun t kt => go4 t (st5 _ kt)
  have go7 : Go p e below T5 (mkF m 58 #[.val (.ref a1), .val (.int (0 : Int32)), .val (.int (Int32.ofNat n)), .val (.ref b), .val (.int (Int32.ofNat n)), .unset] [(.ref b)]) S0 := by
    intro tt kt
    refine go6 tt ?_
    refine XS.istore X5.here hx rfl (hb hby d7_12) rfl (l' := #[.val (.ref a1), .val (.int (0 : Int32)), .val (.int (Int32.ofNat n)), .val (.ref b), .val (.int (Int32.ofNat n)), .unset]) rfl ?_
    refine XS.iload X5.here hx rfl (hb hby d7_14) rfl ?_
    refine XS.iloadN X5.here hx rfl (hb hby d7_16) rfl ?_
    refine XS.icmpYes X5.here hx rfl (pc0 := 17) (pc' := 57) rfl (hb hby d7_17) rfl (teq rfl).1 (by decide) (by decide) ?_
    refine XS.aloadN X5.here hx rfl (hb hby d7_57) rfl rfl ?_
    exact kt
  exact own_leaveA X5 hx hret hlk (hb hby d7_58) go7 rfl (⟨b, k2, rfl, N5, oE K0, V5, sz_b⟩) (by decide) (by decide)
theorem own_ce0 : ∀ n, n ≤ 21 → nar .byte (((((Int32.ofNat n) - (Int32.ofNat n)).toUInt32 >>> ((31 : Int32) &&& 31).toUInt32).toInt32).toInt8.toInt32) = (0 : Int32) := by
  intro n h2
  rcases (by omega : n = 0 ∨ n = 1 ∨ n = 2 ∨ n = 3 ∨ n = 4 ∨ n = 5 ∨ n = 6 ∨ n = 7 ∨ n = 8 ∨ n = 9 ∨ n = 10 ∨ n = 11 ∨ n = 12 ∨ n = 13 ∨ n = 14 ∨ n = 15 ∨ n = 16 ∨ n = 17 ∨ n = 18 ∨ n = 19 ∨ n = 20 ∨ n = 21) with rfl | rfl | rfl | rfl | rfl | rfl | rfl | rfl | rfl | rfl | rfl | rfl | rfl | rfl | rfl | rfl | rfl | rfl | rfl | rfl | rfl | rfl <;> decide
theorem efj_rm_cod0 (m : MethodId) (a1 : Addr) (n : Nat) : entryFrame m #[(.ref a1), (.int (Int32.ofNat n))] 2 = mkF m 0 #[.val (.ref a1), .val (.int (Int32.ofNat n))] [] := by first | (simp [entryFrame, mkF, argsToLocals, Value.category]; done) | rfl
def Q_rm_cod0 (Z : State) (a1 : Addr) (n : Nat) (k : ClassId) (vs : List Value) (h0 : Heap) (n0 : Nat) (v : Option Value) (h : Heap) (L : List Loc) : Prop := v = some (.int (0 : Int32)) ∧ Fr n0 L ∧ h = h0
theorem rm_cod0 (l : Launch) (Z : State) (a0 : Array Value) (hw : Hw a0 Z) (ws : List Jvm.Cond) (a1 : Addr) (n : Nat) (k : ClassId) (vs : List Value) (h0 : Heap) (n0 : Nat) (Z0 : n0 ≤ h0.size) (V_a1 : Arv Z h0 a1 k .byte (Int32.ofNat n) vs (.int (0 : Int32))) (hn11 : n ≤ 21) :
    MF l y17_ jdk_52_method_15_code 2 (some .byte) ws (rM 0 0 0 0) #[(.ref a1), (.int (Int32.ofNat n))] Z h0 (Q_rm_cod0 Z a1 n k vs h0 n0) := by
  refine own_bodyF n0 (plainFor_of_name pnj_8) (fun m => efj_rm_cod0 m a1 n) ?_
  intro p e s m below meth c s₁ S0 hx hby hml hZ hown hnm hret hlk X0 e0 hh N0 hK go0
  have go1 : Go p e below s₁ (mkF m 2 #[.val (.ref a1), .val (.int (Int32.ofNat n))] [(.ref a1), (.int (Int32.ofNat n))]) S0 := by
    intro tt kt
    refine go0 tt ?_
    refine XS.iloadN X0.here hx rfl (hb hby d8_0) rfl ?_
    refine XS.aloadN X0.here hx rfl (hb hby d8_1) rfl rfl ?_
    exact kt
  obtain ⟨cl2, Ar2, q2, S2, N2, H2, G2⟩ := id V_a1
  have go3 : Go p e below s₁ (mkF m 8 #[.val (.ref a1), .val (.int (Int32.ofNat n))] [(.int (((((Int32.ofNat n) - (Int32.ofNat n)).toUInt32 >>> ((31 : Int32) &&& 31).toUInt32).toInt32).toInt8.toInt32))]) S0 := by
    intro tt kt
    refine go1 tt ?_
    refine X0.arraylength hx (by rw [e0]; exact Ar2.1) (State.isArrayOf_alike hZ.alike Ar2.2.1) (g := (mkF m 2 #[.val (.ref a1), .val (.int (Int32.ofNat n))] [(.ref a1), (.int (Int32.ofNat n))])) rfl rfl (hb hby d8_2) _ ?_
    rw [len_of S2 N2]
    refine XS.isub X0.here hx rfl (hb hby d8_3) rfl ?_
    refine XS.bipush X0.here hx rfl (hb hby d8_4) ?_
    refine XS.iushr X0.here hx rfl (hb hby d8_6) rfl ?_
    refine XS.i2b X0.here hx rfl (hb hby d8_7) rfl ?_
    exact kt
  exact own_leaveN (t := .byte) (by simp) X0 hx hret hlk (hb hby d8_8) go3 e0 (⟨by rw [own_ce0 n hn11], N0, rfl⟩) (by decide) (by decide)
theorem pnj_9 : plainName "java/lang/String" = true := by first | (simp [plainName, overriddenIn]; done) | decide +kernel
theorem efj_rm_si4 (m : MethodId) (a1 : Addr) (a2 : Addr) (n : Nat) : entryFrame m #[(.ref a1), (.ref a2), (.int (0 : Int32)), (.int (Int32.ofNat n)), .null] 6 = mkF m 0 #[.val (.ref a1), .val (.ref a2), .val (.int (0 : Int32)), .val (.int (Int32.ofNat n)), .val .null, .unset] [] := by first | (simp [entryFrame, mkF, argsToLocals, Value.category]; done) | rfl
theorem d9_0 : Dc c5 0 (.aload_n 0) 1 := by decide +kernel
theorem d9_1 : Dc c5 1 (.invokespecial 1) 3 := by decide +kernel
theorem d9_4 : Dc c5 4 (.iload_n 3) 1 := by decide +kernel
theorem d9_5 : Dc c5 5 (.ifCond .ne 22) 3 := by decide +kernel
theorem d9_27 : Dc c5 27 (.getstatic 38) 3 := by decide +kernel
theorem d9_30 : Dc c5 30 (.ifCond .eq 28) 3 := by decide +kernel
theorem d9_33 : Dc c5 33 (.aload_n 1) 1 := by decide +kernel
theorem d9_34 : Dc c5 34 (.iload_n 2) 1 := by decide +kernel
theorem d9_35 : Dc c5 35 (.iload_n 3) 1 := by decide +kernel
theorem d9_36 : Dc c5 36 (.invokestatic 177) 3 := by decide +kernel
theorem d9_39 : Dc c5 39 (.astore 5) 2 := by decide +kernel
theorem d9_41 : Dc c5 41 (.aload_n 0) 1 := by decide +kernel
theorem d9_42 : Dc c5 42 (.aload 5) 2 := by decide +kernel
theorem d9_44 : Dc c5 44 (.iload_n 3) 1 := by decide +kernel
theorem pd24_ : parseMethodDescriptor "([BI)B" = some ⟨[(.array .byte), .int], some .byte⟩ := by decide +kernel
theorem d9_45 : Dc c5 45 (.invokestatic 47) 3 := by decide +kernel
theorem d9_48 : Dc c5 48 (.putfield 15) 3 := by decide +kernel
theorem d9_51 : Dc c5 51 (.aload_n 0) 1 := by decide +kernel
theorem d9_52 : Dc c5 52 (.aload 5) 2 := by decide +kernel
theorem d9_54 : Dc c5 54 (.putfield 9) 3 := by decide +kernel
theorem d9_57 : Dc c5 57 (.return_) 1 := by decide +kernel
def Q_rm_si4 (Z : State) (a1 : Addr) (a2 : Addr) (n : Nat) (k2 : ClassId) (cs : List Int32) (zc : Int32) (h0 : Heap) (n0 : Nat) (v : Option Value) (h : Heap) (L : List Loc) : Prop := v = none ∧ Fr n0 L ∧ Keep h0 h [a1] ∧ Bs Z h a1 (own_k cs) (own_b cs)
theorem rm_si4 (l : Launch) (Z : State) (a0 : Array Value) (hw : Hw a0 Z) (ws : List Jvm.Cond) (a1 : Addr) (a2 : Addr) (n : Nat) (k2 : ClassId) (cs : List Int32) (zc : Int32) (h0 : Heap) (n0 : Nat) (Z0 : n0 ≤ h0.size) (O0 : Ext Z.heap h0) (hn0 : Z.heap.size ≤ n0) (S_AD : Sta Z Z.heap "java/lang/StringUTF16" "$assertionsDisabled" "Z" (.int (1 : Int32))) (S_HI : Sta Z Z.heap "java/lang/StringUTF16" "HI_BYTE_SHIFT" "I" (.int (0 : Int32))) (S_LO : Sta Z Z.heap "java/lang/StringUTF16" "LO_BYTE_SHIFT" "I" (.int (8 : Int32))) (S_CS : Sta Z Z.heap "java/lang/String" "COMPACT_STRINGS" "Z" (.int zc)) (P5 : ¬ zc = (0 : Int32)) (E_a1 : Exa Z h0 a1 "java/lang/String") (F_value_a1 : Fld Z h0 a1 "java/lang/String" "value" "[B" .null) (F_coder_a1 : Fld Z h0 a1 "java/lang/String" "coder" "B" (.int (0 : Int32))) (g_a1 : n0 ≤ a1) (hn : n = cs.length) (h1n : 1 ≤ n) (hn11 : n ≤ 21) (V_a2 : Arv Z h0 a2 k2 .char (Int32.ofNat n) (cs.map Value.int) (.int (0 : Int32))) (hch : ∀ c ∈ cs, ¬ c < (0 : Int32) ∧ ¬ (65535 : Int32) < c) :
    MF l y10_ jdk_42_method_149_code 6 none ws (rM 4 2 89 69) #[(.ref a1), (.ref a2), (.int (0 : Int32)), (.int (Int32.ofNat n)), .null] Z h0 (Q_rm_si4 Z a1 a2 n k2 cs zc h0 n0) := by
  refine own_bodyF n0 (plainFor_of_name pnj_9) (fun m => efj_rm_si4 m a1 a2 n) ?_
  intro p e s m below meth c s₁ S0 hx hby hml hZ hown hnm hret hlk X0 e0 hh N0 hK go0
  have K0 : Keep h0 h0 [a1] := Keep.refl h0 [a1]
  have go1 : Go p e below s₁ (mkF m 1 #[.val (.ref a1), .val (.ref a2), .val (.int (0 : Int32)), .val (.int (Int32.ofNat n)), .val .null, .unset] [(.ref a1)]) S0 := by
    intro tt kt
    refine go0 tt ?_
    refine XS.aloadN X0.here hx rfl (hb hby d9_0) rfl rfl ?_
    exact kt
  obtain ⟨T2, X2, e2, st2⟩ := initO X0 hx hZ hown (wi hw 12 rfl) (wi hw 13 rfl) (wi hw 14 rfl) e0 (g := (mkF m 1 #[.val (.ref a1), .val (.ref a2), .val (.int (0 : Int32)), .val (.int (Int32.ofNat n)), .val .null, .unset] [(.ref a1)])) rfl (by rw [hml]; rfl) rfl (hb hby d9_1) (by decide) (W := 0) (by show 2 * 0 + _ ≤ _; exact Nat.le_of_eq rfl) (by decide)
  have go3 : Go p e below T2 (mkF m 4 #[.val (.ref a1), .val (.ref a2), .val (.int (0 : Int32)), .val (.int (Int32.ofNat n)), .val .null, .unset] []) S0 := fun t kt => go1 t (st2 _ kt)
  have go4 : Go p e below T2 (mkF m 27 #[.val (.ref a1), .val (.ref a2), .val (.int (0 : Int32)), .val (.int (Int32.ofNat n)), .val .null, .unset] []) S0 := by
    intro tt kt
    refine go3 tt ?_
    refine XS.iloadN X2.here hx rfl (hb hby d9_4) rfl ?_
    refine XS.ifYes X2.here hx rfl (pc0 := 5) (pc' := 27) rfl (hb hby d9_5) rfl ((if0 _ _).trans (feq (fun q => absurd (own_ltN (i := 0) (n := n) (by omega) (by omega)) (by rw [q]; decide))).2) (by decide) (by decide) ?_
    exact kt
  have S_N := S_CS.ext (oO O0 K0 hn0 (allS g_a1 all0))
  obtain ⟨T5, X5, e5, st5⟩ := getS2 X2 hx hZ hown (host := "") (Or.inl (wi hw 34 rfl)) Via.refl e2 S_N (g := (mkF m 27 #[.val (.ref a1), .val (.ref a2), .val (.int (0 : Int32)), .val (.int (Int32.ofNat n)), .val .null, .unset] [])) rfl (hb hby d9_27)
  have go6 : Go p e below T5 (mkF m 30 #[.val (.ref a1), .val (.ref a2), .val (.int (0 : Int32)), .val (.int (Int32.ofNat n)), .val .null, .unset] [(.int zc)]) S0 := fun t kt => go4 t (st5 _ kt)
  have go7 : Go p e below T5 (mkF m 36 #[.val (.ref a1), .val (.ref a2), .val (.int (0 : Int32)), .val (.int (Int32.ofNat n)), .val .null, .unset] [(.int (Int32.ofNat n)), (.int (0 : Int32)), (.ref a2)]) S0 := by
    intro tt kt
    refine go6 tt ?_
    refine XS.ifNo X5.here hx rfl (hb hby d9_30) rfl ((if0 _ _).trans (feq P5).1) ?_
    refine XS.aloadN X5.here hx rfl (hb hby d9_33) rfl rfl ?_
    refine XS.iloadN X5.here hx rfl (hb hby d9_34) rfl ?_
    refine XS.iloadN X5.here hx rfl (hb hby d9_35) rfl ?_
    exact kt
  rcases own_first cs with hall | ⟨i, hi, hlo, hhi⟩
  · obtain ⟨_, _, ⟨T8, L8, k8, n8⟩, -, X8, ⟨Lc8, hQ8, l8, y8, z8⟩, st8⟩ := Jvm.LawKit.callS X5 hx (y := y18_) hown (mvT hZ (wi hw 47 rfl)) (mvT hZ (wi hw 48 rfl)) (mvT hZ (wi hw 49 rfl)) (mvT hZ (wi hw 50 rfl)) (by decide) (backOf (W := 0) (rm_cmpL l Z a0 hw [] a2 n k2 cs h0 n0 Z0 hn hn11 (fun x h => hall _ (own_gmem (by omega))) V_a2) hZ (wi hw 50 rfl) (wi hw 49 rfl) (by decide) (by decide)) (g := (mkF m 36 #[.val (.ref a1), .val (.ref a2), .val (.int (0 : Int32)), .val (.int (Int32.ofNat n)), .val .null, .unset] [(.int (Int32.ofNat n)), (.int (0 : Int32)), (.ref a2)])) rfl (by rw [hml]; rfl) (argsL := [(.ref a2), (.int (0 : Int32)), (.int (Int32.ofNat n))]) (rest := []) (lenOf pd17_ rfl) rfl (by show 2 * 0 + _ ≤ _; exact Nat.le_of_eq rfl) (hb hby d9_36) (fun _ _ => ⟨rfl, e5, (by decide : 0 + 1 ≤ _), (by decide : 0 + 21 ≤ _)⟩)
    dsimp only [Pt.U, Pt.locs, Pt.cells, Pt.slots] at X8 l8 y8 z8 st8 hQ8
    subst l8 y8 z8
    obtain ⟨u, ku, rfl, N8q, E8, V_u, su⟩ := hQ8
    have ne_u_a1 : u ≠ a1 := oL E_a1.lt su
    have E_a1 := E_a1.ext E8
    have F_value_a1 := F_value_a1.ext E8
    have F_coder_a1 := F_coder_a1.ext E8
    have Z0 := Nat.le_trans Z0 E8.1
    have K0 := K0.ext E8
    have N8 := Fr.app N0 N8q
    have go9 : Go p e below T8 (mkF m 39 #[.val (.ref a1), .val (.ref a2), .val (.int (0 : Int32)), .val (.int (Int32.ofNat n)), .val .null, .unset] [(.ref u)]) S0 := fun t kt => go7 t (st8 _ kt)
    have go10 : Go p e below T8 (mkF m 45 #[.val (.ref a1), .val (.ref a2), .val (.int (0 : Int32)), .val (.int (Int32.ofNat n)), .val .null, .val (.ref u)] [(.int (Int32.ofNat n)), (.ref u), (.ref a1)]) S0 := by
      intro tt kt
      refine go9 tt ?_
      refine XS.astore X8.here hx rfl (hb hby d9_39) rfl rfl (l' := #[.val (.ref a1), .val (.ref a2), .val (.int (0 : Int32)), .val (.int (Int32.ofNat n)), .val .null, .val (.ref u)]) rfl ?_
      refine XS.aloadN X8.here hx rfl (hb hby d9_41) rfl rfl ?_
      refine XS.aload X8.here hx rfl (hb hby d9_42) rfl rfl ?_
      refine XS.iloadN X8.here hx rfl (hb hby d9_44) rfl ?_
      exact kt
    obtain ⟨_, _, ⟨T11, L11, k11, n11⟩, -, X11, ⟨Lc11, hQ11, l11, y11, z11⟩, st11⟩ := Jvm.LawKit.callS X8 hx (y := y17_) hown (mvT hZ (wi hw 54 rfl)) (mvT hZ (wi hw 55 rfl)) (mvT hZ (wi hw 49 rfl)) (mvT hZ (wi hw 56 rfl)) (by decide) (backOf (W := 1) (rm_cod0 l Z a0 hw [] u n ku _ T8.heap n0 Z0 V_u hn11) hZ (wi hw 56 rfl) (wi hw 49 rfl) (by decide) (by decide)) (g := (mkF m 45 #[.val (.ref a1), .val (.ref a2), .val (.int (0 : Int32)), .val (.int (Int32.ofNat n)), .val .null, .val (.ref u)] [(.int (Int32.ofNat n)), (.ref u), (.ref a1)])) rfl (by rw [hml]; rfl) (argsL := [(.ref u), (.int (Int32.ofNat n))]) (rest := [(.ref a1)]) (lenOf pd24_ rfl) rfl (by show 2 * 0 + _ ≤ _; exact Nat.le_of_eq rfl) (hb hby d9_45) (fun _ _ => ⟨rfl, rfl, (by decide : 1 + 0 ≤ _), (by decide : 21 + 0 ≤ _)⟩)
    dsimp only [Pt.U, Pt.locs, Pt.cells, Pt.slots] at X11 l11 y11 z11 st11 hQ11
    subst l11 y11 z11
    obtain ⟨rfl, N11q, g11⟩ := hQ11
    have K0 := own_ks g11 K0
    rw [← g11] at E_a1 F_value_a1 F_coder_a1 V_u Z0
    have N11 := Fr.app N8 N11q
    have go12 : Go p e below T11 (mkF m 48 #[.val (.ref a1), .val (.ref a2), .val (.int (0 : Int32)), .val (.int (Int32.ofNat n)), .val .null, .val (.ref u)] [(.int (0 : Int32)), (.ref a1)]) S0 := fun t kt => go10 t (st11 _ kt)
    have V_u := own_mkL V_u hn
    obtain ⟨T13, h13, X13, e13, W13, st13⟩ := putFN X11 hx hZ hown (wi hw 22 rfl) Via.refl rfl F_coder_a1 E_a1 (Or.inr ⟨(wi hw 18 rfl), rfl, hnm⟩) (wi hw 3 rfl) (ty := .byte) (v' := (.int (0 : Int32))) (by decide) rfl rfl (g := (mkF m 48 #[.val (.ref a1), .val (.ref a2), .val (.int (0 : Int32)), .val (.int (Int32.ofNat n)), .val .null, .val (.ref u)] [(.int (0 : Int32)), (.ref a1)])) rfl rfl (hb hby d9_48)
    have E_a1 := E_a1.wr W13
    have F_value_a1 := F_value_a1.other W13 (Or.inr (slot_ne (Or.inr (wi hw 17 rfl)) (Or.inr (wi hw 18 rfl)) (by decide) (t := (.array .byte)) (t' := .byte) (by decide) (by decide)))
    have V_u := V_u.other W13 ne_u_a1
    have F_coder_a1 := F_coder_a1.same W13
    have Z0 := Nat.le_trans Z0 (Keep.of_wr W13).1
    have K0 := K0.wr W13 (Or.inl (List.mem_of_getElem? (i := 0) rfl))
    have N13r := Fr.snoc X13 N11 g_a1
    have go14 : Go p e below T13 (mkF m 51 #[.val (.ref a1), .val (.ref a2), .val (.int (0 : Int32)), .val (.int (Int32.ofNat n)), .val .null, .val (.ref u)] []) S0 := fun t kt => go12 t (st13 _ kt)
    have go15 : Go p e below T13 (mkF m 54 #[.val (.ref a1), .val (.ref a2), .val (.int (0 : Int32)), .val (.int (Int32.ofNat n)), .val .null, .val (.ref u)] [(.ref u), (.ref a1)]) S0 := by
      intro tt kt
      refine go14 tt ?_
      refine XS.aloadN X13.here hx rfl (hb hby d9_51) rfl rfl ?_
      refine XS.aload X13.here hx rfl (hb hby d9_52) rfl rfl ?_
      exact kt
    obtain ⟨T16, h16, X16, e16, W16, st16⟩ := putF X13 hx hZ hown (host := "") (Or.inl (wi hw 21 rfl)) Via.refl e13 F_value_a1 E_a1 (Or.inr ⟨(wi hw 17 rfl), rfl, hnm⟩) (wi hw 3 rfl) (ty := (.array .byte)) (by decide) rfl rfl (g := (mkF m 54 #[.val (.ref a1), .val (.ref a2), .val (.int (0 : Int32)), .val (.int (Int32.ofNat n)), .val .null, .val (.ref u)] [(.ref u), (.ref a1)])) rfl rfl (hb hby d9_54)
    have E_a1 := E_a1.wr W16
    have F_coder_a1 := F_coder_a1.other W16 (Or.inr (slot_ne (Or.inr (wi hw 18 rfl)) (Or.inr (wi hw 17 rfl)) (by decide) (t := .byte) (t' := (.array .byte)) (by decide) (by decide)))
    have V_u := V_u.other W16 ne_u_a1
    have F_value_a1 := F_value_a1.same W16
    have Z0 := Nat.le_trans Z0 (Keep.of_wr W16).1
    have K0 := K0.wr W16 (Or.inl (List.mem_of_getElem? (i := 0) rfl))
    have N16r := Fr.snoc X16 N13r g_a1
    have go17 : Go p e below T16 (mkF m 57 #[.val (.ref a1), .val (.ref a2), .val (.int (0 : Int32)), .val (.int (Int32.ofNat n)), .val .null, .val (.ref u)] []) S0 := fun t kt => go15 t (st16 _ kt)
    exact own_leaveV X16 hx hret hlk (hb hby d9_57) go17 e16 (⟨rfl, N16r, K0, by rw [own_k, own_b, if_pos (own_q_t hall), if_pos (own_q_t hall)]; exact ⟨u, ku, E_a1, F_coder_a1, F_value_a1, V_u⟩⟩) (by decide) (by decide)
  · obtain ⟨_, _, ⟨T18, L18, k18, n18⟩, -, X18, ⟨Lc18, hQ18, l18, y18, z18⟩, st18⟩ := Jvm.LawKit.callS X5 hx (y := y18_) hown (mvT hZ (wi hw 47 rfl)) (mvT hZ (wi hw 48 rfl)) (mvT hZ (wi hw 49 rfl)) (mvT hZ (wi hw 50 rfl)) (by decide) (backOf (W := 0) (rm_cmp16 l Z a0 hw [] a2 n i k2 cs h0 n0 Z0 (oO O0 K0 hn0 (allS g_a1 all0)) hn0 S_AD S_HI S_LO hn hn11 (by omega) hlo hhi V_a2 (hch _ (own_gmem hi))) hZ (wi hw 50 rfl) (wi hw 49 rfl) (by decide) (by decide)) (g := (mkF m 36 #[.val (.ref a1), .val (.ref a2), .val (.int (0 : Int32)), .val (.int (Int32.ofNat n)), .val .null, .unset] [(.int (Int32.ofNat n)), (.int (0 : Int32)), (.ref a2)])) rfl (by rw [hml]; rfl) (argsL := [(.ref a2), (.int (0 : Int32)), (.int (Int32.ofNat n))]) (rest := []) (lenOf pd17_ rfl) rfl (by show 2 * 0 + _ ≤ _; exact Nat.le_of_eq rfl) (hb hby d9_36) (fun _ _ => ⟨rfl, e5, (by decide : 0 + 2 ≤ _), (by decide : 0 + 89 ≤ _)⟩)
    dsimp only [Pt.U, Pt.locs, Pt.cells, Pt.slots] at X18 l18 y18 z18 st18 hQ18
    subst l18 y18 z18
    obtain ⟨u, ku, rfl, N18q, E18, V_u, su⟩ := hQ18
    have ne_u_a1 : u ≠ a1 := oL E_a1.lt su
    have E_a1 := E_a1.ext E18
    have F_value_a1 := F_value_a1.ext E18
    have F_coder_a1 := F_coder_a1.ext E18
    have Z0 := Nat.le_trans Z0 E18.1
    have K0 := K0.ext E18
    have N18 := Fr.app N0 N18q
    have go19 : Go p e below T18 (mkF m 39 #[.val (.ref a1), .val (.ref a2), .val (.int (0 : Int32)), .val (.int (Int32.ofNat n)), .val .null, .unset] [(.ref u)]) S0 := fun t kt => go7 t (st18 _ kt)
    have go20 : Go p e below T18 (mkF m 45 #[.val (.ref a1), .val (.ref a2), .val (.int (0 : Int32)), .val (.int (Int32.ofNat n)), .val .null, .val (.ref u)] [(.int (Int32.ofNat n)), (.ref u), (.ref a1)]) S0 := by
      intro tt kt
      refine go19 tt ?_
      refine XS.astore X18.here hx rfl (hb hby d9_39) rfl rfl (l' := #[.val (.ref a1), .val (.ref a2), .val (.int (0 : Int32)), .val (.int (Int32.ofNat n)), .val .null, .val (.ref u)]) rfl ?_
      refine XS.aloadN X18.here hx rfl (hb hby d9_41) rfl rfl ?_
      refine XS.aload X18.here hx rfl (hb hby d9_42) rfl rfl ?_
      refine XS.iloadN X18.here hx rfl (hb hby d9_44) rfl ?_
      exact kt
    obtain ⟨_, _, ⟨T21, L21, k21, n21⟩, -, X21, ⟨Lc21, hQ21, l21, y21, z21⟩, st21⟩ := Jvm.LawKit.callS X18 hx (y := y17_) hown (mvT hZ (wi hw 54 rfl)) (mvT hZ (wi hw 55 rfl)) (mvT hZ (wi hw 49 rfl)) (mvT hZ (wi hw 56 rfl)) (by decide) (backOf (W := 1) (rm_coderOf l Z a0 hw [] u n ku _ T18.heap n0 Z0 V_u h1n hn11) hZ (wi hw 56 rfl) (wi hw 49 rfl) (by decide) (by decide)) (g := (mkF m 45 #[.val (.ref a1), .val (.ref a2), .val (.int (0 : Int32)), .val (.int (Int32.ofNat n)), .val .null, .val (.ref u)] [(.int (Int32.ofNat n)), (.ref u), (.ref a1)])) rfl (by rw [hml]; rfl) (argsL := [(.ref u), (.int (Int32.ofNat n))]) (rest := [(.ref a1)]) (lenOf pd24_ rfl) rfl (by show 2 * 0 + _ ≤ _; exact Nat.le_of_eq rfl) (hb hby d9_45) (fun _ _ => ⟨rfl, rfl, (by decide : 2 + 0 ≤ _), (by decide : 89 + 0 ≤ _)⟩)
    dsimp only [Pt.U, Pt.locs, Pt.cells, Pt.slots] at X21 l21 y21 z21 st21 hQ21
    subst l21 y21 z21
    obtain ⟨rfl, N21q, g21⟩ := hQ21
    have K0 := own_ks g21 K0
    rw [← g21] at E_a1 F_value_a1 F_coder_a1 V_u Z0
    have N21 := Fr.app N18 N21q
    have go22 : Go p e below T21 (mkF m 48 #[.val (.ref a1), .val (.ref a2), .val (.int (0 : Int32)), .val (.int (Int32.ofNat n)), .val .null, .val (.ref u)] [(.int (1 : Int32)), (.ref a1)]) S0 := fun t kt => go20 t (st21 _ kt)
    have V_u := own_mkU V_u hn
    obtain ⟨T23, h23, X23, e23, W23, st23⟩ := putFN X21 hx hZ hown (wi hw 22 rfl) Via.refl rfl F_coder_a1 E_a1 (Or.inr ⟨(wi hw 18 rfl), rfl, hnm⟩) (wi hw 3 rfl) (ty := .byte) (v' := (.int (1 : Int32))) (by decide) rfl rfl (g := (mkF m 48 #[.val (.ref a1), .val (.ref a2), .val (.int (0 : Int32)), .val (.int (Int32.ofNat n)), .val .null, .val (.ref u)] [(.int (1 : Int32)), (.ref a1)])) rfl rfl (hb hby d9_48)
    have E_a1 := E_a1.wr W23
    have F_value_a1 := F_value_a1.other W23 (Or.inr (slot_ne (Or.inr (wi hw 17 rfl)) (Or.inr (wi hw 18 rfl)) (by decide) (t := (.array .byte)) (t' := .byte) (by decide) (by decide)))
    have V_u := V_u.other W23 ne_u_a1
    have F_coder_a1 := F_coder_a1.same W23
    have Z0 := Nat.le_trans Z0 (Keep.of_wr W23).1
    have K0 := K0.wr W23 (Or.inl (List.mem_of_getElem? (i := 0) rfl))
    have N23r := Fr.snoc X23 N21 g_a1
    have go24 : Go p e below T23 (mkF m 51 #[.val (.ref a1), .val (.ref a2), .val (.int (0 : Int32)), .val (.int (Int32.ofNat n)), .val .null, .val (.ref u)] []) S0 := fun t kt => go22 t (st23 _ kt)
    have go25 : Go p e below T23 (mkF m 54 #[.val (.ref a1), .val (.ref a2), .val (.int (0 : Int32)), .val (.int (Int32.ofNat n)), .val .null, .val (.ref u)] [(.ref u), (.ref a1)]) S0 := by
      intro tt kt
      refine go24 tt ?_
      refine XS.aloadN X23.here hx rfl (hb hby d9_51) rfl rfl ?_
      refine XS.aload X23.here hx rfl (hb hby d9_52) rfl rfl ?_
      exact kt
    obtain ⟨T26, h26, X26, e26, W26, st26⟩ := putF X23 hx hZ hown (host := "") (Or.inl (wi hw 21 rfl)) Via.refl e23 F_value_a1 E_a1 (Or.inr ⟨(wi hw 17 rfl), rfl, hnm⟩) (wi hw 3 rfl) (ty := (.array .byte)) (by decide) rfl rfl (g := (mkF m 54 #[.val (.ref a1), .val (.ref a2), .val (.int (0 : Int32)), .val (.int (Int32.ofNat n)), .val .null, .val (.ref u)] [(.ref u), (.ref a1)])) rfl rfl (hb hby d9_54)
    have E_a1 := E_a1.wr W26
    have F_coder_a1 := F_coder_a1.other W26 (Or.inr (slot_ne (Or.inr (wi hw 18 rfl)) (Or.inr (wi hw 17 rfl)) (by decide) (t := .byte) (t' := (.array .byte)) (by decide) (by decide)))
    have V_u := V_u.other W26 ne_u_a1
    have F_value_a1 := F_value_a1.same W26
    have Z0 := Nat.le_trans Z0 (Keep.of_wr W26).1
    have K0 := K0.wr W26 (Or.inl (List.mem_of_getElem? (i := 0) rfl))
    have N26r := Fr.snoc X26 N23r g_a1
    have go27 : Go p e below T26 (mkF m 57 #[.val (.ref a1), .val (.ref a2), .val (.int (0 : Int32)), .val (.int (Int32.ofNat n)), .val .null, .val (.ref u)] []) S0 := fun t kt => go25 t (st26 _ kt)
    exact own_leaveV X26 hx hret hlk (hb hby d9_57) go27 e26 (⟨rfl, N26r, K0, by rw [own_k, own_b, if_neg (own_q_f hi hhi), if_neg (own_q_f hi hhi)]; exact ⟨u, ku, E_a1, F_coder_a1, F_value_a1, V_u⟩⟩) (by decide) (by decide)
theorem pnj_10 : plainName "java/lang/String" = true := by first | (simp [plainName, overriddenIn]; done) | decide +kernel
theorem efj_rm_si1 (m : MethodId) (a1 : Addr) (a2 : Addr) : entryFrame m #[(.ref a1), (.ref a2)] 2 = mkF m 0 #[.val (.ref a1), .val (.ref a2)] [] := by first | (simp [entryFrame, mkF, argsToLocals, Value.category]; done) | rfl
theorem d10_0 : Dc c11 0 (.aload_n 0) 1 := by decide +kernel
theorem d10_1 : Dc c11 1 (.aload_n 1) 1 := by decide +kernel
theorem d10_2 : Dc c11 2 (.iconst 0) 1 := by decide +kernel
theorem d10_3 : Dc c11 3 (.aload_n 1) 1 := by decide +kernel
theorem d10_4 : Dc c11 4 (.arraylength) 1 := by decide +kernel
theorem d10_5 : Dc c11 5 (.aconst_null) 1 := by decide +kernel
theorem pd8_ : parseMethodDescriptor "([CIILjava/lang/Void;)V" = some ⟨[(.array .char), .int, .int, (.object "java/lang/Void")], none⟩ := by decide +kernel
theorem d10_6 : Dc c11 6 (.invokespecial 27) 3 := by decide +kernel
theorem d10_9 : Dc c11 9 (.return_) 1 := by decide +kernel
def Q_rm_si1 (Z : State) (a1 : Addr) (a2 : Addr) (n : Nat) (k2 : ClassId) (cs : List Int32) (zc : Int32) (h0 : Heap) (n0 : Nat) (v : Option Value) (h : Heap) (L : List Loc) : Prop := v = none ∧ Fr n0 L ∧ Keep h0 h [a1] ∧ Bs Z h a1 (own_k cs) (own_b cs)
theorem rm_si1 (l : Launch) (Z : State) (a0 : Array Value) (hw : Hw a0 Z) (ws : List Jvm.Cond) (a1 : Addr) (a2 : Addr) (n : Nat) (k2 : ClassId) (cs : List Int32) (zc : Int32) (h0 : Heap) (n0 : Nat) (Z0 : n0 ≤ h0.size) (O0 : Ext Z.heap h0) (hn0 : Z.heap.size ≤ n0) (S_AD : Sta Z Z.heap "java/lang/StringUTF16" "$assertionsDisabled" "Z" (.int (1 : Int32))) (S_HI : Sta Z Z.heap "java/lang/StringUTF16" "HI_BYTE_SHIFT" "I" (.int (0 : Int32))) (S_LO : Sta Z Z.heap "java/lang/StringUTF16" "LO_BYTE_SHIFT" "I" (.int (8 : Int32))) (S_CS : Sta Z Z.heap "java/lang/String" "COMPACT_STRINGS" "Z" (.int zc)) (P5 : ¬ zc = (0 : Int32)) (E_a1 : Exa Z h0 a1 "java/lang/String") (F_value_a1 : Fld Z h0 a1 "java/lang/String" "value" "[B" .null) (F_coder_a1 : Fld Z h0 a1 "java/lang/String" "coder" "B" (.int (0 : Int32))) (g_a1 : n0 ≤ a1) (hn : n = cs.length) (h1n : 1 ≤ n) (hn11 : n ≤ 21) (V_a2 : Arv Z h0 a2 k2 .char (Int32.ofNat n) (cs.map Value.int) (.int (0 : Int32))) (hch : ∀ c ∈ cs, ¬ c < (0 : Int32) ∧ ¬ (65535 : Int32) < c) :
    MF l y3_ jdk_42_method_3_code 2 none ws (rM 5 2 89 86) #[(.ref a1), (.ref a2)] Z h0 (Q_rm_si1 Z a1 a2 n k2 cs zc h0 n0) := by
  refine own_bodyF n0 (plainFor_of_name pnj_10) (fun m => efj_rm_si1 m a1 a2) ?_
  intro p e s m below meth c s₁ S0 hx hby hml hZ hown hnm hret hlk X0 e0 hh N0 hK go0
  have go1 : Go p e below s₁ (mkF m 4 #[.val (.ref a1), .val (.ref a2)] [(.ref a2), (.int (0 : Int32)), (.ref a2), (.ref a1)]) S0 := by
    intro tt kt
    refine go0 tt ?_
    refine XS.aloadN X0.here hx rfl (hb hby d10_0) rfl rfl ?_
    refine XS.aloadN X0.here hx rfl (hb hby d10_1) rfl rfl ?_
    refine XS.iconst X0.here hx rfl (hb hby d10_2) ?_
    refine XS.aloadN X0.here hx rfl (hb hby d10_3) rfl rfl ?_
    exact kt
  obtain ⟨cl2, Ar2, q2, S2, N2, H2, G2⟩ := id V_a2
  have go3 : Go p e below s₁ (mkF m 6 #[.val (.ref a1), .val (.ref a2)] [.null, (.int (Int32.ofNat n)), (.int (0 : Int32)), (.ref a2), (.ref a1)]) S0 := by
    intro tt kt
    refine go1 tt ?_
    refine X0.arraylength hx (by rw [e0]; exact Ar2.1) (State.isArrayOf_alike hZ.alike Ar2.2.1) (g := (mkF m 4 #[.val (.ref a1), .val (.ref a2)] [(.ref a2), (.int (0 : Int32)), (.ref a2), (.ref a1)])) rfl rfl (hb hby d10_4) _ ?_
    rw [len_of S2 N2]
    refine XS.aconstNull X0.here hx rfl (hb hby d10_5) ?_
    exact kt
  obtain ⟨_, _, ⟨T4, L4, k4, n4⟩, -, X4, ⟨Lc4, hQ4, l4, y4, z4⟩, st4⟩ := X0.specialBack hx (y := y10_) rfl hown (mvT hZ (wi hw 8 rfl)) (mvT hZ (wi hw 9 rfl)) (mvT hZ (wi hw 11 rfl)) (by decide) (backOf (W := 0) (rm_si4 l Z a0 hw [] a1 a2 n k2 cs zc h0 n0 Z0 O0 hn0 S_AD S_HI S_LO S_CS P5 E_a1 F_value_a1 F_coder_a1 g_a1 hn h1n hn11 V_a2 hch) hZ (wi hw 11 rfl) (wi hw 4 rfl) (by decide) (by decide)) (g := (mkF m 6 #[.val (.ref a1), .val (.ref a2)] [.null, (.int (Int32.ofNat n)), (.int (0 : Int32)), (.ref a2), (.ref a1)])) rfl (by rw [hml]; rfl) (Steps.refl _) (a := a1) (argsL := [(.ref a2), (.int (0 : Int32)), (.int (Int32.ofNat n)), .null]) (rest := []) (lenOf pd8_ rfl) rfl (by show 2 * 0 + _ ≤ _; exact Nat.le_of_eq rfl) (hb hby d10_6) (fun _ _ => ⟨rfl, e0, (by decide : 0 + 2 ≤ _), (by decide : 0 + 89 ≤ _)⟩)
  dsimp only [Pt.U, Pt.locs, Pt.cells, Pt.slots] at X4 l4 y4 z4 st4 hQ4
  subst l4 y4 z4
  obtain ⟨rfl, N4q, K4, B4⟩ := hQ4
  have N4 := Fr.app N0 N4q
  have go5 : Go p e below T4 (mkF m 9 #[.val (.ref a1), .val (.ref a2)] []) S0 := fun t kt => go3 t (st4.trans kt)
  exact own_leaveV X4 hx hret hlk (hb hby d10_9) go5 rfl (⟨rfl, N4, K4, B4⟩) (by decide) (by decide)
theorem pnj_11 : plainName "java/lang/String" = true := by first | (simp [plainName, overriddenIn]; done) | decide +kernel
theorem efj_rm_coder (m : MethodId) (a1 : Addr) : entryFrame m #[(.ref a1)] 1 = mkF m 0 #[.val (.ref a1)] [] := by first | (simp [entryFrame, mkF, argsToLocals, Value.category]; done) | rfl
theorem d11_0 : Dc c7 0 (.getstatic 38) 3 := by decide +kernel
theorem d11_3 : Dc c7 3 (.ifCond .eq 10) 3 := by decide +kernel
theorem d11_6 : Dc c7 6 (.aload_n 0) 1 := by decide +kernel
theorem d11_7 : Dc c7 7 (.getfield 15) 3 := by decide +kernel
theorem d11_10 : Dc c7 10 (.goto 4) 3 := by decide +kernel
theorem d11_14 : Dc c7 14 (.ireturn) 1 := by decide +kernel
def Q_rm_coder (Z : State) (a1 : Addr) (k : Int32) (zc : Int32) (h0 : Heap) (n0 : Nat) (v : Option Value) (h : Heap) (L : List Loc) : Prop := v = some (.int k) ∧ Fr n0 L ∧ h = h0
theorem rm_coder (l : Launch) (Z : State) (a0 : Array Value) (hw : Hw a0 Z) (ws : List Jvm.Cond) (a1 : Addr) (k : Int32) (zc : Int32) (h0 : Heap) (n0 : Nat) (Z0 : n0 ≤ h0.size) (O0 : Ext Z.heap h0) (hn0 : Z.heap.size ≤ n0) (S_CS : Sta Z Z.heap "java/lang/String" "COMPACT_STRINGS" "Z" (.int zc)) (P5 : ¬ zc = (0 : Int32)) (C_a1 : Fld Z h0 a1 "java/lang/String" "coder" "B" (.int k)) (hk : nar .byte k = k) :
    MF l y4_ jdk_42_method_152_code 1 (some .byte) ws (rM 0 0 0 0) #[(.ref a1)] Z h0 (Q_rm_coder Z a1 k zc h0 n0) := by
  refine own_bodyF n0 (plainFor_of_name pnj_11) (fun m => efj_rm_coder m a1) ?_
  intro p e s m below meth c s₁ S0 hx hby hml hZ hown hnm hret hlk X0 e0 hh N0 hK go0
  have S_N := S_CS.ext O0
  obtain ⟨T1, X1, e1, st1⟩ := getS2 X0 hx hZ hown (host := "") (Or.inl (wi hw 34 rfl)) Via.refl e0 S_N (g := (mkF m 0 #[.val (.ref a1)] [])) rfl (hb hby d11_0)
  have go2 : Go p e below T1 (mkF m 3 #[.val (.ref a1)] [(.int zc)]) S0 := fun t kt => go0 t (st1 _ kt)
  have go3 : Go p e below T1 (mkF m 7 #[.val (.ref a1)] [(.ref a1)]) S0 := by
    intro tt kt
    refine go2 tt ?_
    refine XS.ifNo X1.here hx rfl (hb hby d11_3) rfl ((if0 _ _).trans (feq P5).1) ?_
    refine XS.aloadN X1.here hx rfl (hb hby d11_6) rfl rfl ?_
    exact kt
  obtain ⟨T4, X4, e4, st4⟩ := getF X1 hx hZ hown (host := "") (Or.inl (wi hw 22 rfl)) Via.refl e1 C_a1 (g := (mkF m 7 #[.val (.ref a1)] [(.ref a1)])) rfl rfl (hb hby d11_7)
  have go5 : Go p e below T4 (mkF m 10 #[.val (.ref a1)] [(.int k)]) S0 := fun t kt => go3 t (st4 _ kt)
  have go6 : Go p e below T4 (mkF m 14 #[.val (.ref a1)] [(.int k)]) S0 := by
    intro tt kt
    refine go5 tt ?_
    refine XS.goto X4.here hx rfl (pc0 := 10) (pc' := 14) rfl (hb hby d11_10) (by decide) (by decide) ?_
    exact kt
  exact own_leaveN (t := .byte) (by simp) X4 hx hret hlk (hb hby d11_14) go6 e4 (⟨by rw [hk], N0, rfl⟩) (by decide) (by decide)
theorem pnj_12 : plainName "java/lang/String" = true := by first | (simp [plainName, overriddenIn]; done) | decide +kernel
theorem efj_rm_slen (m : MethodId) (a1 : Addr) : entryFrame m #[(.ref a1)] 1 = mkF m 0 #[.val (.ref a1)] [] := by first | (simp [entryFrame, mkF, argsToLocals, Value.category]; done) | rfl
theorem d12_0 : Dc c13 0 (.aload_n 0) 1 := by decide +kernel
theorem d12_1 : Dc c13 1 (.getfield 9) 3 := by decide +kernel
theorem d12_4 : Dc c13 4 (.arraylength) 1 := by decide +kernel
theorem d12_5 : Dc c13 5 (.aload_n 0) 1 := by decide +kernel
theorem pd38_ : parseMethodDescriptor "()B" = some ⟨[], some .byte⟩ := by decide +kernel
theorem d12_6 : Dc c13 6 (.invokevirtual 335) 3 := by decide +kernel
theorem d12_9 : Dc c13 9 (.ishr) 1 := by decide +kernel
theorem d12_10 : Dc c13 10 (.ireturn) 1 := by decide +kernel
def Q_rm_slen (Z : State) (a1 : Addr) (t : Addr) (kt : ClassId) (k : Int32) (ds : List Value) (nn : Int32) (zc : Int32) (h0 : Heap) (n0 : Nat) (v : Option Value) (h : Heap) (L : List Loc) : Prop := v = some (.int nn) ∧ Fr n0 L ∧ h = h0
theorem rm_slen (l : Launch) (Z : State) (a0 : Array Value) (hw : Hw a0 Z) (ws : List Jvm.Cond) (a1 : Addr) (t : Addr) (kt : ClassId) (k : Int32) (ds : List Value) (nn : Int32) (zc : Int32) (h0 : Heap) (n0 : Nat) (Z0 : n0 ≤ h0.size) (O0 : Ext Z.heap h0) (hn0 : Z.heap.size ≤ n0) (S_CS : Sta Z Z.heap "java/lang/String" "COMPACT_STRINGS" "Z" (.int zc)) (P5 : ¬ zc = (0 : Int32)) (E_a1 : Exa Z h0 a1 "java/lang/String") (C_a1 : Fld Z h0 a1 "java/lang/String" "coder" "B" (.int k)) (V_a1 : Fld Z h0 a1 "java/lang/String" "value" "[B" (.ref t)) (A_t : Arv Z h0 t kt .byte (Int32.ofNat ds.length) ds (.int (0 : Int32))) (hk : nar .byte k = k) (hnn : (Int32.ofNat ds.length >>> (k &&& 31)) = nn) :
    MF l y1_ jdk_42_method_54_code 1 (some .int) ws (rM 1 0 0 13) #[(.ref a1)] Z h0 (Q_rm_slen Z a1 t kt k ds nn zc h0 n0) := by
  refine own_bodyF n0 (plainFor_of_name pnj_12) (fun m => efj_rm_slen m a1) ?_
  intro p e s m below meth c s₁ S0 hx hby hml hZ hown hnm hret hlk X0 e0 hh N0 hK go0
  have go1 : Go p e below s₁ (mkF m 1 #[.val (.ref a1)] [(.ref a1)]) S0 := by
    intro tt kt
    refine go0 tt ?_
    refine XS.aloadN X0.here hx rfl (hb hby d12_0) rfl rfl ?_
    exact kt
  obtain ⟨T2, X2, e2, st2⟩ := getF X0 hx hZ hown (host := "") (Or.inl (wi hw 21 rfl)) Via.refl e0 V_a1 (g := (mkF m 1 #[.val (.ref a1)] [(.ref a1)])) rfl rfl (hb hby d12_1)
  have go3 : Go p e below T2 (mkF m 4 #[.val (.ref a1)] [(.ref t)]) S0 := fun t kt => go1 t (st2 _ kt)
  obtain ⟨cl4, Ar4, q4, S4, N4, H4, G4⟩ := id A_t
  have go5 : Go p e below T2 (mkF m 6 #[.val (.ref a1)] [(.ref a1), (.int (Int32.ofNat ds.length))]) S0 := by
    intro tt kt
    refine go3 tt ?_
    refine X2.arraylength hx (by rw [e2]; exact Ar4.1) (State.isArrayOf_alike hZ.alike Ar4.2.1) (g := (mkF m 4 #[.val (.ref a1)] [(.ref t)])) rfl rfl (hb hby d12_4) _ ?_
    rw [len_of S4 N4]
    refine XS.aloadN X2.here hx rfl (hb hby d12_5) rfl rfl ?_
    exact kt
  obtain ⟨cq6, kq6, q6a, q6b, q6c⟩ := isOf hZ e2 E_a1
  obtain ⟨_, _, ⟨T6, L6, k6, n6⟩, -, X6, ⟨Lc6, hQ6, l6, y6, z6⟩, st6⟩ := X2.virtualBack hx (y := y4_) (z := y4_) hown (mvT hZ (wi hw 98 rfl)) (mvT hZ (wi hw 99 rfl)) (notFace_of_selects (args := #[]) (mvT hZ (wi hw 101 rfl))) (mvT hZ (wi hw 101 rfl)) (mvT hZ (wi hw 100 rfl)) (by decide) (backOf (W := 1) (rm_coder l Z a0 hw [] a1 k zc h0 n0 Z0 O0 hn0 S_CS P5 C_a1 hk) hZ (wi hw 102 rfl) (wi hw 4 rfl) (by decide) (by decide)) q6a q6c (g := (mkF m 6 #[.val (.ref a1)] [(.ref a1), (.int (Int32.ofNat ds.length))])) rfl (by rw [hml]; rfl) (Steps.refl _) (argsL := []) (rest := [(.int (Int32.ofNat ds.length))]) (lenOf pd38_ rfl) rfl (by show 2 * 0 + _ ≤ _; exact Nat.le_of_eq rfl) (hb hby d12_6) (fun _ _ => ⟨rfl, e2, (by decide : 0 + 0 ≤ _), (by decide : 0 + 0 ≤ _)⟩)
  dsimp only [Pt.U, Pt.locs, Pt.cells, Pt.slots] at X6 l6 y6 z6 st6 hQ6
  subst l6 y6 z6
  obtain ⟨rfl, N6q, g6⟩ := hQ6
  rw [← g6] at O0
  rw [← g6] at E_a1 C_a1 V_a1 A_t Z0
  have N6 := Fr.app N0 N6q
  have go7 : Go p e below T6 (mkF m 9 #[.val (.ref a1)] [(.int k), (.int (Int32.ofNat ds.length))]) S0 := fun t kt => go5 t (st6.trans kt)
  have go8 : Go p e below T6 (mkF m 10 #[.val (.ref a1)] [(.int ((Int32.ofNat ds.length) >>> (k &&& 31)))]) S0 := by
    intro tt kt
    refine go7 tt ?_
    refine XS.ishr X6.here hx rfl (hb hby d12_9) rfl ?_
    exact kt
  have cv9 : ((Int32.ofNat ds.length) >>> (k &&& 31)) = nn := hnn
  have go9 : Go p e below T6 (mkF m 10 #[.val (.ref a1)] [(.int nn)]) S0 := by have q := go8; rw [cv9] at q; exact q
  exact own_leaveI X6 hx hret hlk (hb hby d12_10) go9 rfl (⟨rfl, N6, g6⟩) (by decide) (by decide)
theorem d13_9 : Dc c16 9 (.iload_n 2) 1 := by decide +kernel
theorem d13_10 : Dc c16 10 (.aload_n 0) 1 := by decide +kernel
theorem d13_11 : Dc c16 11 (.arraylength) 1 := by decide +kernel
theorem d13_12 : Dc c16 12 (.if_icmp .ge 20) 3 := by decide +kernel
theorem d13_15 : Dc c16 15 (.aload_n 0) 1 := by decide +kernel
theorem d13_16 : Dc c16 16 (.iload_n 2) 1 := by decide +kernel
theorem d13_17 : Dc c16 17 (.baload) 1 := by decide +kernel
theorem d13_18 : Dc c16 18 (.aload_n 1) 1 := by decide +kernel
theorem d13_19 : Dc c16 19 (.iload_n 2) 1 := by decide +kernel
theorem d13_20 : Dc c16 20 (.baload) 1 := by decide +kernel
theorem d13_21 : Dc c16 21 (.if_icmp .eq 5) 3 := by decide +kernel
theorem d13_26 : Dc c16 26 (.iinc 2 1) 3 := by decide +kernel
theorem d13_29 : Dc c16 29 (.goto (-20)) 3 := by decide +kernel
set_option maxRecDepth 65536 in
set_option maxHeartbeats 40000000 in
theorem own_loopEQ {p : Program} {l : Launch} {e : Env} {s : State} {m : MethodId} {args : Array Value} {below : List Frame} {meth : Method} {c : Code} {Z : State} {n : Nat} {a1 a2 : Addr} {k1 k2 : ClassId} {vs : List Value} {R : Room} {T0 : State} {h0 : Heap} {locs : List Loc} {cells slots : Nat} (hx : p.tables.exec = Jvm.exec) (hZ : Z.Warmed39 s.vm) (hby : c.code = jdk_43_method_13_code) (hn : n = vs.length) (hn11 : n < 1000) (hint : ∀ x ∈ vs, ∃ b, x = Value.int b) (X0 : Stand p l e R s m args below meth c T0 locs cells slots) (e0 : T0.heap = h0) (V_a1 : Arv Z h0 a1 k1 .byte (Int32.ofNat n) vs (.int (0 : Int32))) (V_a2 : Arv Z h0 a2 k2 .byte (Int32.ofNat n) vs (.int (0 : Int32))) :
    ∀ (d j : Nat), j + d = n → ∀ t, Steps p.tables e below (T0.setTop (mkF m 32 #[.val (.ref a1), .val (.ref a2), .val (.int (Int32.ofNat n))] [])) t → Steps p.tables e below (T0.setTop (mkF m 9 #[.val (.ref a1), .val (.ref a2), .val (.int (Int32.ofNat j))] [])) t := by
  intro d
  induction d with
  | zero =>
    intro j hj
    obtain rfl : n = j := by omega
    have go0 : Go p e below T0 (mkF m 9 #[.val (.ref a1), .val (.ref a2), .val (.int (Int32.ofNat n))] []) (T0.setTop (mkF m 9 #[.val (.ref a1), .val (.ref a2), .val (.int (Int32.ofNat n))] [])) := fun t k => k
    generalize (T0.setTop (mkF m 9 #[.val (.ref a1), .val (.ref a2), .val (.int (Int32.ofNat n))] [])) = S0 at go0 ⊢
    have go1 : Go p e below T0 (mkF m 11 #[.val (.ref a1), .val (.ref a2), .val (.int (Int32.ofNat n))] [(.ref a1), (.int (Int32.ofNat n))]) S0 := by
      intro tt kt
      refine go0 tt ?_
      refine XS.iloadN X0.here hx rfl (hb hby d13_9) rfl ?_
      refine XS.aloadN X0.here hx rfl (hb hby d13_10) rfl rfl ?_
      exact kt
    obtain ⟨cl2, Ar2, q2, S2, N2, H2, G2⟩ := id V_a1
    have go3 : Go p e below T0 (mkF m 32 #[.val (.ref a1), .val (.ref a2), .val (.int (Int32.ofNat n))] []) S0 := by
      intro tt kt
      refine go1 tt ?_
      refine X0.arraylength hx (by rw [e0]; exact Ar2.1) (State.isArrayOf_alike hZ.alike Ar2.2.1) (g := (mkF m 11 #[.val (.ref a1), .val (.ref a2), .val (.int (Int32.ofNat n))] [(.ref a1), (.int (Int32.ofNat n))])) rfl rfl (hb hby d13_11) _ ?_
      rw [len_of S2 N2]
      refine XS.icmpYes X0.here hx rfl (pc0 := 12) (pc' := 32) rfl (hb hby d13_12) rfl (flt (own_nltN (Nat.le_refl _) (by omega))).2.1 (by decide) (by decide) ?_
      exact kt
    exact go3
  | succ d ih =>
    intro j hj
    obtain ⟨b, hbv⟩ := hint (vs.getD j (.int (0 : Int32))) (by rw [List.getD_eq_getElem?_getD, List.getElem?_eq_getElem (show j < vs.length by omega)]; exact List.getElem_mem _)
    have hv0 := hbv
    have hz : (Int32.ofNat n).toNatClampNeg = vs.length := by rw [oC (by omega), hn]
    have go0 : Go p e below T0 (mkF m 9 #[.val (.ref a1), .val (.ref a2), .val (.int (Int32.ofNat j))] []) (T0.setTop (mkF m 9 #[.val (.ref a1), .val (.ref a2), .val (.int (Int32.ofNat j))] [])) := fun t k => k
    generalize (T0.setTop (mkF m 9 #[.val (.ref a1), .val (.ref a2), .val (.int (Int32.ofNat j))] [])) = S0 at go0 ⊢
    have go4 : Go p e below T0 (mkF m 11 #[.val (.ref a1), .val (.ref a2), .val (.int (Int32.ofNat j))] [(.ref a1), (.int (Int32.ofNat j))]) S0 := by
      intro tt kt
      refine go0 tt ?_
      refine XS.iloadN X0.here hx rfl (hb hby d13_9) rfl ?_
      refine XS.aloadN X0.here hx rfl (hb hby d13_10) rfl rfl ?_
      exact kt
    obtain ⟨cl5, Ar5, q5, S5, N5, H5, G5⟩ := id V_a1
    have go6 : Go p e below T0 (mkF m 17 #[.val (.ref a1), .val (.ref a2), .val (.int (Int32.ofNat j))] [(.int (Int32.ofNat j)), (.ref a1)]) S0 := by
      intro tt kt
      refine go4 tt ?_
      refine X0.arraylength hx (by rw [e0]; exact Ar5.1) (State.isArrayOf_alike hZ.alike Ar5.2.1) (g := (mkF m 11 #[.val (.ref a1), .val (.ref a2), .val (.int (Int32.ofNat j))] [(.ref a1), (.int (Int32.ofNat j))])) rfl rfl (hb hby d13_11) _ ?_
      rw [len_of S5 N5]
      refine XS.icmpNo X0.here hx rfl (hb hby d13_12) rfl (tlt (own_ltN (by omega) (by omega))).2.1 ?_
      refine XS.aloadN X0.here hx rfl (hb hby d13_15) rfl rfl ?_
      refine XS.iloadN X0.here hx rfl (hb hby d13_16) rfl ?_
      exact kt
    obtain ⟨cl7, Ar7, q7, S7, N7, H7, G7⟩ := id V_a1
    have go9 : Go p e below T0 (mkF m 20 #[.val (.ref a1), .val (.ref a2), .val (.int (Int32.ofNat j))] [(.int (Int32.ofNat j)), (.ref a2), (.int b)]) S0 := by
      intro tt kt
      refine go6 tt ?_
      refine X0.baloadBytes hx (j := (Int32.ofNat j)) (v := (.int b)) (by rw [e0]; exact Ar7.1) (State.isArrayOf_alike hZ.alike Ar7.2.1) Ar7.2.2 (fun q => q.elim (oN (by omega)) fun q => by rw [S7, hz, (oC (n := j) (by omega))] at q; omega) (by rw [(oC (n := j) (by omega)), H7 _ (by rw [S7, hz]; omega)]; exact congrArg some hv0) (g := (mkF m 17 #[.val (.ref a1), .val (.ref a2), .val (.int (Int32.ofNat j))] [(.int (Int32.ofNat j)), (.ref a1)])) rfl rfl (hb hby d13_17) _ ?_
      refine XS.aloadN X0.here hx rfl (hb hby d13_18) rfl rfl ?_
      refine XS.iloadN X0.here hx rfl (hb hby d13_19) rfl ?_
      exact kt
    obtain ⟨cl10, Ar10, q10, S10, N10, H10, G10⟩ := id V_a2
    have go12 : Go p e below T0 (mkF m 9 #[.val (.ref a1), .val (.ref a2), .val (.int ((Int32.ofNat j) + (1 : Int32)))] []) S0 := by
      intro tt kt
      refine go9 tt ?_
      refine X0.baloadBytes hx (j := (Int32.ofNat j)) (v := (.int b)) (by rw [e0]; exact Ar10.1) (State.isArrayOf_alike hZ.alike Ar10.2.1) Ar10.2.2 (fun q => q.elim (oN (by omega)) fun q => by rw [S10, hz, (oC (n := j) (by omega))] at q; omega) (by rw [(oC (n := j) (by omega)), H10 _ (by rw [S10, hz]; omega)]; exact congrArg some hv0) (g := (mkF m 20 #[.val (.ref a1), .val (.ref a2), .val (.int (Int32.ofNat j))] [(.int (Int32.ofNat j)), (.ref a2), (.int b)])) rfl rfl (hb hby d13_20) _ ?_
      refine XS.icmpYes X0.here hx rfl (pc0 := 21) (pc' := 26) rfl (hb hby d13_21) rfl (teq rfl).1 (by decide) (by decide) ?_
      refine XS.iinc X0.here hx rfl (hb hby d13_26) rfl (l' := #[.val (.ref a1), .val (.ref a2), .val (.int ((Int32.ofNat j) + (1 : Int32)))]) rfl ?_
      refine XS.goto X0.here hx rfl (pc0 := 29) (pc' := 9) rfl (hb hby d13_29) (by decide) (by decide) ?_
      exact kt
    have go13 : Go p e below T0 (mkF m 9 #[.val (.ref a1), .val (.ref a2), .val (.int (Int32.ofNat (j + 1)))] []) S0 := by rw [← own_one]; exact go12
    exact fun t kt => go13 t (ih (j + 1) (by omega) t kt)
theorem pnj_13 : plainName "java/lang/StringLatin1" = true := by first | (simp [plainName, overriddenIn]; done) | decide +kernel
theorem efj_rm_leq (m : MethodId) (a1 : Addr) (a2 : Addr) : entryFrame m #[(.ref a1), (.ref a2)] 3 = mkF m 0 #[.val (.ref a1), .val (.ref a2), .unset] [] := by first | (simp [entryFrame, mkF, argsToLocals, Value.category]; done) | rfl
theorem d13_0 : Dc c16 0 (.aload_n 0) 1 := by decide +kernel
theorem d13_1 : Dc c16 1 (.arraylength) 1 := by decide +kernel
theorem d13_2 : Dc c16 2 (.aload_n 1) 1 := by decide +kernel
theorem d13_3 : Dc c16 3 (.arraylength) 1 := by decide +kernel
theorem d13_4 : Dc c16 4 (.if_icmp .ne 30) 3 := by decide +kernel
theorem d13_7 : Dc c16 7 (.iconst 0) 1 := by decide +kernel
theorem d13_8 : Dc c16 8 (.istore_n 2) 1 := by decide +kernel
theorem d13_32 : Dc c16 32 (.iconst 1) 1 := by decide +kernel
theorem d13_33 : Dc c16 33 (.ireturn) 1 := by decide +kernel
def Q_rm_leq (Z : State) (a1 : Addr) (a2 : Addr) (n : Nat) (k1 : ClassId) (k2 : ClassId) (vs : List Value) (h0 : Heap) (n0 : Nat) (v : Option Value) (h : Heap) (L : List Loc) : Prop := v = some (.int (1 : Int32)) ∧ Fr n0 L ∧ h = h0
theorem rm_leq (l : Launch) (Z : State) (a0 : Array Value) (hw : Hw a0 Z) (ws : List Jvm.Cond) (a1 : Addr) (a2 : Addr) (n : Nat) (k1 : ClassId) (k2 : ClassId) (vs : List Value) (h0 : Heap) (n0 : Nat) (Z0 : n0 ≤ h0.size) (hn : n = vs.length) (hn11 : n < 1000) (hint : ∀ x ∈ vs, ∃ b, x = Value.int b) (V_a1 : Arv Z h0 a1 k1 .byte (Int32.ofNat n) vs (.int (0 : Int32))) (V_a2 : Arv Z h0 a2 k2 .byte (Int32.ofNat n) vs (.int (0 : Int32))) :
    MF l y46_ jdk_43_method_13_code 3 (some .boolean) ws (rM 0 0 0 0) #[(.ref a1), (.ref a2)] Z h0 (Q_rm_leq Z a1 a2 n k1 k2 vs h0 n0) := by
  refine own_bodyF n0 (plainFor_of_name pnj_13) (fun m => efj_rm_leq m a1 a2) ?_
  intro p e s m below meth c s₁ S0 hx hby hml hZ hown hnm hret hlk X0 e0 hh N0 hK go0
  have go1 : Go p e below s₁ (mkF m 1 #[.val (.ref a1), .val (.ref a2), .unset] [(.ref a1)]) S0 := by
    intro tt kt
    refine go0 tt ?_
    refine XS.aloadN X0.here hx rfl (hb hby d13_0) rfl rfl ?_
    exact kt
  obtain ⟨cl2, Ar2, q2, S2, N2, H2, G2⟩ := id V_a1
  have go3 : Go p e below s₁ (mkF m 3 #[.val (.ref a1), .val (.ref a2), .unset] [(.ref a2), (.int (Int32.ofNat n))]) S0 := by
    intro tt kt
    refine go1 tt ?_
    refine X0.arraylength hx (by rw [e0]; exact Ar2.1) (State.isArrayOf_alike hZ.alike Ar2.2.1) (g := (mkF m 1 #[.val (.ref a1), .val (.ref a2), .unset] [(.ref a1)])) rfl rfl (hb hby d13_1) _ ?_
    rw [len_of S2 N2]
    refine XS.aloadN X0.here hx rfl (hb hby d13_2) rfl rfl ?_
    exact kt
  obtain ⟨cl4, Ar4, q4, S4, N4, H4, G4⟩ := id V_a2
  have go5 : Go p e below s₁ (mkF m 9 #[.val (.ref a1), .val (.ref a2), .val (.int (0 : Int32))] []) S0 := by
    intro tt kt
    refine go3 tt ?_
    refine X0.arraylength hx (by rw [e0]; exact Ar4.1) (State.isArrayOf_alike hZ.alike Ar4.2.1) (g := (mkF m 3 #[.val (.ref a1), .val (.ref a2), .unset] [(.ref a2), (.int (Int32.ofNat n))])) rfl rfl (hb hby d13_3) _ ?_
    rw [len_of S4 N4]
    refine XS.icmpNo X0.here hx rfl (hb hby d13_4) rfl (teq rfl).2 ?_
    refine XS.iconst X0.here hx rfl (hb hby d13_7) ?_
    refine XS.istoreN X0.here hx rfl (hb hby d13_8) rfl (l' := #[.val (.ref a1), .val (.ref a2), .val (.int (0 : Int32))]) rfl ?_
    exact kt
  have go6 : Go p e below s₁ (mkF m 32 #[.val (.ref a1), .val (.ref a2), .val (.int (Int32.ofNat n))] []) S0 := fun t kt => go5 t (own_loopEQ hx hZ hby hn hn11 hint X0 e0 V_a1 V_a2 n 0 (by omega) t kt)
  have go7 : Go p e below s₁ (mkF m 33 #[.val (.ref a1), .val (.ref a2), .val (.int (Int32.ofNat n))] [(.int (1 : Int32))]) S0 := by
    intro tt kt
    refine go6 tt ?_
    refine XS.iconst X0.here hx rfl (hb hby d13_32) ?_
    exact kt
  exact own_leaveN (t := .boolean) (by simp) X0 hx hret hlk (hb hby d13_33) go7 e0 (⟨rfl, N0, rfl⟩) (by decide) (by decide)
theorem pnj_14 : plainName "java/lang/String" = true := by first | (simp [plainName, overriddenIn]; done) | decide +kernel
theorem efj_rm_eqS (m : MethodId) (a1 : Addr) (a2 : Addr) : entryFrame m #[(.ref a1), (.ref a2)] 3 = mkF m 0 #[.val (.ref a1), .val (.ref a2), .unset] [] := by first | (simp [entryFrame, mkF, argsToLocals, Value.category]; done) | rfl
theorem d14_0 : Dc c15 0 (.aload_n 0) 1 := by decide +kernel
theorem d14_1 : Dc c15 1 (.aload_n 1) 1 := by decide +kernel
theorem d14_2 : Dc c15 2 (.if_acmp .ne 5) 3 := by decide +kernel
theorem d14_5 : Dc c15 5 (.iconst 1) 1 := by decide +kernel
theorem d14_6 : Dc c15 6 (.ireturn) 1 := by decide +kernel
theorem d14_7 : Dc c15 7 (.aload_n 1) 1 := by decide +kernel
theorem d14_8 : Dc c15 8 (.instanceof 10) 3 := by decide +kernel
theorem d14_11 : Dc c15 11 (.ifCond .eq 43) 3 := by decide +kernel
theorem d14_14 : Dc c15 14 (.aload_n 1) 1 := by decide +kernel
theorem d14_15 : Dc c15 15 (.checkcast 10) 3 := by decide +kernel
theorem d14_18 : Dc c15 18 (.astore_n 2) 1 := by decide +kernel
theorem d14_19 : Dc c15 19 (.getstatic 38) 3 := by decide +kernel
theorem d14_22 : Dc c15 22 (.ifCond .eq 14) 3 := by decide +kernel
theorem d14_25 : Dc c15 25 (.aload_n 0) 1 := by decide +kernel
theorem d14_26 : Dc c15 26 (.getfield 15) 3 := by decide +kernel
theorem d14_29 : Dc c15 29 (.aload_n 2) 1 := by decide +kernel
theorem d14_30 : Dc c15 30 (.getfield 15) 3 := by decide +kernel
theorem d14_33 : Dc c15 33 (.if_icmp .ne 21) 3 := by decide +kernel
theorem d14_36 : Dc c15 36 (.aload_n 0) 1 := by decide +kernel
theorem d14_37 : Dc c15 37 (.getfield 9) 3 := by decide +kernel
theorem d14_40 : Dc c15 40 (.aload_n 2) 1 := by decide +kernel
theorem d14_41 : Dc c15 41 (.getfield 9) 3 := by decide +kernel
theorem pd20_ : parseMethodDescriptor "([B[B)Z" = some ⟨[(.array .byte), (.array .byte)], some .boolean⟩ := by decide +kernel
theorem d14_44 : Dc c15 44 (.invokestatic 541) 3 := by decide +kernel
theorem d14_47 : Dc c15 47 (.ifCond .eq 7) 3 := by decide +kernel
theorem d14_50 : Dc c15 50 (.iconst 1) 1 := by decide +kernel
theorem d14_51 : Dc c15 51 (.goto 4) 3 := by decide +kernel
theorem d14_55 : Dc c15 55 (.ireturn) 1 := by decide +kernel
def Q_rm_eqS (Z : State) (a1 : Addr) (a2 : Addr) (t1 : Addr) (t2 : Addr) (kt1 : ClassId) (kt2 : ClassId) (k : Int32) (vs : List Value) (zc : Int32) (h0 : Heap) (n0 : Nat) (v : Option Value) (h : Heap) (L : List Loc) : Prop := v = some (.int (1 : Int32)) ∧ Fr n0 L ∧ h = h0
theorem rm_eqS (l : Launch) (Z : State) (a0 : Array Value) (hw : Hw a0 Z) (ws : List Jvm.Cond) (a1 : Addr) (a2 : Addr) (t1 : Addr) (t2 : Addr) (kt1 : ClassId) (kt2 : ClassId) (k : Int32) (vs : List Value) (zc : Int32) (h0 : Heap) (n0 : Nat) (Z0 : n0 ≤ h0.size) (O0 : Ext Z.heap h0) (hn0 : Z.heap.size ≤ n0) (S_CS : Sta Z Z.heap "java/lang/String" "COMPACT_STRINGS" "Z" (.int zc)) (P5 : ¬ zc = (0 : Int32)) (E_a1 : Exa Z h0 a1 "java/lang/String") (C_a1 : Fld Z h0 a1 "java/lang/String" "coder" "B" (.int k)) (V_a1 : Fld Z h0 a1 "java/lang/String" "value" "[B" (.ref t1)) (A_t1 : Arv Z h0 t1 kt1 .byte (Int32.ofNat vs.length) vs (.int (0 : Int32))) (E_a2 : Exa Z h0 a2 "java/lang/String") (C_a2 : Fld Z h0 a2 "java/lang/String" "coder" "B" (.int k)) (V_a2 : Fld Z h0 a2 "java/lang/String" "value" "[B" (.ref t2)) (A_t2 : Arv Z h0 t2 kt2 .byte (Int32.ofNat vs.length) vs (.int (0 : Int32))) (hn11 : vs.length < 1000) (hint : ∀ x ∈ vs, ∃ b, x = Value.int b) :
    MF l y12_ jdk_42_method_66_code 3 (some .boolean) ws (rM 1 0 0 14) #[(.ref a1), (.ref a2)] Z h0 (Q_rm_eqS Z a1 a2 t1 t2 kt1 kt2 k vs zc h0 n0) := by
  refine own_bodyF n0 (plainFor_of_name pnj_14) (fun m => efj_rm_eqS m a1 a2) ?_
  intro p e s m below meth c s₁ S0 hx hby hml hZ hown hnm hret hlk X0 e0 hh N0 hK go0
  have go1 : Go p e below s₁ (mkF m 2 #[.val (.ref a1), .val (.ref a2), .unset] [(.ref a2), (.ref a1)]) S0 := by
    intro tt kt
    refine go0 tt ?_
    refine XS.aloadN X0.here hx rfl (hb hby d14_0) rfl rfl ?_
    refine XS.aloadN X0.here hx rfl (hb hby d14_1) rfl rfl ?_
    exact kt
  by_cases hne : a1 = a2
  · have go2 : Go p e below s₁ (mkF m 6 #[.val (.ref a1), .val (.ref a2), .unset] [(.int (1 : Int32))]) S0 := by
      intro tt kt
      refine go1 tt ?_
      refine Jvm.RoadKit.acmp (g := (mkF m 2 #[.val (.ref a1), .val (.ref a2), .unset] [(.ref a2), (.ref a1)])) X0 hx rfl rfl rfl (pc0 := 2) (pc' := 5) (same := true) rfl (hb hby d14_2) rfl (decide_eq_true (congrArg Value.ref hne)) (by decide) (by decide) ?_
      refine XS.iconst X0.here hx rfl (hb hby d14_5) ?_
      exact kt
    exact own_leaveN (t := .boolean) (by simp) X0 hx hret hlk (hb hby d14_6) go2 e0 (⟨rfl, N0, rfl⟩) (by decide) (by decide)
  · have go3 : Go p e below s₁ (mkF m 8 #[.val (.ref a1), .val (.ref a2), .unset] [(.ref a2)]) S0 := by
      intro tt kt
      refine go1 tt ?_
      refine Jvm.RoadKit.acmp (g := (mkF m 2 #[.val (.ref a1), .val (.ref a2), .unset] [(.ref a2), (.ref a1)])) X0 hx rfl rfl rfl (pc0 := 2) (pc' := 7) (same := false) rfl (hb hby d14_2) rfl (decide_eq_false fun q => hne (Value.ref.inj q)) (by decide) (by decide) ?_
      refine XS.aloadN X0.here hx rfl (hb hby d14_7) rfl rfl ?_
      exact kt
    obtain ⟨T4, X4, e4, st4⟩ := instY X0 hx hZ hown (wi hw 262 rfl) e0 (Ins.self E_a2) (g := (mkF m 8 #[.val (.ref a1), .val (.ref a2), .unset] [(.ref a2)])) rfl rfl (hb hby d14_8)
    have go5 : Go p e below T4 (mkF m 11 #[.val (.ref a1), .val (.ref a2), .unset] [(.int (1 : Int32))]) S0 := fun t kt => go3 t (st4 _ kt)
    have go6 : Go p e below T4 (mkF m 15 #[.val (.ref a1), .val (.ref a2), .unset] [(.ref a2)]) S0 := by
      intro tt kt
      refine go5 tt ?_
      refine XS.ifNo X4.here hx rfl (hb hby d14_11) rfl ((if0 _ _).trans (feq (by decide)).1) ?_
      refine XS.aloadN X4.here hx rfl (hb hby d14_14) rfl rfl ?_
      exact kt
    obtain ⟨T7, X7, e7, st7⟩ := castY X4 hx hZ hown (wi hw 262 rfl) e4 (Ins.self E_a2) (g := (mkF m 15 #[.val (.ref a1), .val (.ref a2), .unset] [(.ref a2)])) rfl rfl (hb hby d14_15)
    have go8 : Go p e below T7 (mkF m 18 #[.val (.ref a1), .val (.ref a2), .unset] [(.ref a2)]) S0 := fun t kt => go6 t (st7 _ kt)
    have go9 : Go p e below T7 (mkF m 19 #[.val (.ref a1), .val (.ref a2), .val (.ref a2)] []) S0 := by
      intro tt kt
      refine go8 tt ?_
      refine XS.astoreN X7.here hx rfl (hb hby d14_18) rfl rfl (l' := #[.val (.ref a1), .val (.ref a2), .val (.ref a2)]) rfl ?_
      exact kt
    have S_N := S_CS.ext O0
    obtain ⟨T10, X10, e10, st10⟩ := getS2 X7 hx hZ hown (host := "") (Or.inl (wi hw 34 rfl)) Via.refl e7 S_N (g := (mkF m 19 #[.val (.ref a1), .val (.ref a2), .val (.ref a2)] [])) rfl (hb hby d14_19)
    have go11 : Go p e below T10 (mkF m 22 #[.val (.ref a1), .val (.ref a2), .val (.ref a2)] [(.int zc)]) S0 := fun t kt => go9 t (st10 _ kt)
    have go12 : Go p e below T10 (mkF m 26 #[.val (.ref a1), .val (.ref a2), .val (.ref a2)] [(.ref a1)]) S0 := by
      intro tt kt
      refine go11 tt ?_
      refine XS.ifNo X10.here hx rfl (hb hby d14_22) rfl ((if0 _ _).trans (feq P5).1) ?_
      refine XS.aloadN X10.here hx rfl (hb hby d14_25) rfl rfl ?_
      exact kt
    obtain ⟨T13, X13, e13, st13⟩ := getF X10 hx hZ hown (host := "") (Or.inl (wi hw 22 rfl)) Via.refl e10 C_a1 (g := (mkF m 26 #[.val (.ref a1), .val (.ref a2), .val (.ref a2)] [(.ref a1)])) rfl rfl (hb hby d14_26)
    have go14 : Go p e below T13 (mkF m 29 #[.val (.ref a1), .val (.ref a2), .val (.ref a2)] [(.int k)]) S0 := fun t kt => go12 t (st13 _ kt)
    have go15 : Go p e below T13 (mkF m 30 #[.val (.ref a1), .val (.ref a2), .val (.ref a2)] [(.ref a2), (.int k)]) S0 := by
      intro tt kt
      refine go14 tt ?_
      refine XS.aloadN X13.here hx rfl (hb hby d14_29) rfl rfl ?_
      exact kt
    obtain ⟨T16, X16, e16, st16⟩ := getF X13 hx hZ hown (host := "") (Or.inl (wi hw 22 rfl)) Via.refl e13 C_a2 (g := (mkF m 30 #[.val (.ref a1), .val (.ref a2), .val (.ref a2)] [(.ref a2), (.int k)])) rfl rfl (hb hby d14_30)
    have go17 : Go p e below T16 (mkF m 33 #[.val (.ref a1), .val (.ref a2), .val (.ref a2)] [(.int k), (.int k)]) S0 := fun t kt => go15 t (st16 _ kt)
    have go18 : Go p e below T16 (mkF m 37 #[.val (.ref a1), .val (.ref a2), .val (.ref a2)] [(.ref a1)]) S0 := by
      intro tt kt
      refine go17 tt ?_
      refine XS.icmpNo X16.here hx rfl (hb hby d14_33) rfl (teq rfl).2 ?_
      refine XS.aloadN X16.here hx rfl (hb hby d14_36) rfl rfl ?_
      exact kt
    obtain ⟨T19, X19, e19, st19⟩ := getF X16 hx hZ hown (host := "") (Or.inl (wi hw 21 rfl)) Via.refl e16 V_a1 (g := (mkF m 37 #[.val (.ref a1), .val (.ref a2), .val (.ref a2)] [(.ref a1)])) rfl rfl (hb hby d14_37)
    have go20 : Go p e below T19 (mkF m 40 #[.val (.ref a1), .val (.ref a2), .val (.ref a2)] [(.ref t1)]) S0 := fun t kt => go18 t (st19 _ kt)
    have go21 : Go p e below T19 (mkF m 41 #[.val (.ref a1), .val (.ref a2), .val (.ref a2)] [(.ref a2), (.ref t1)]) S0 := by
      intro tt kt
      refine go20 tt ?_
      refine XS.aloadN X19.here hx rfl (hb hby d14_40) rfl rfl ?_
      exact kt
    obtain ⟨T22, X22, e22, st22⟩ := getF X19 hx hZ hown (host := "") (Or.inl (wi hw 21 rfl)) Via.refl e19 V_a2 (g := (mkF m 41 #[.val (.ref a1), .val (.ref a2), .val (.ref a2)] [(.ref a2), (.ref t1)])) rfl rfl (hb hby d14_41)
    have go23 : Go p e below T22 (mkF m 44 #[.val (.ref a1), .val (.ref a2), .val (.ref a2)] [(.ref t2), (.ref t1)]) S0 := fun t kt => go21 t (st22 _ kt)
    obtain ⟨_, _, ⟨T24, L24, k24, n24⟩, -, X24, ⟨Lc24, hQ24, l24, y24, z24⟩, st24⟩ := Jvm.LawKit.callS X22 hx (y := y46_) hown (mvT hZ (wi hw 263 rfl)) (mvT hZ (wi hw 264 rfl)) (mvT hZ (wi hw 37 rfl)) (mvT hZ (wi hw 265 rfl)) (by decide) (backOf (W := 0) (rm_leq l Z a0 hw [] t1 t2 vs.length kt1 kt2 vs h0 n0 Z0 rfl hn11 hint A_t1 A_t2) hZ (wi hw 265 rfl) (wi hw 37 rfl) (by decide) (by decide)) (g := (mkF m 44 #[.val (.ref a1), .val (.ref a2), .val (.ref a2)] [(.ref t2), (.ref t1)])) rfl (by rw [hml]; rfl) (argsL := [(.ref t1), (.ref t2)]) (rest := []) (lenOf pd20_ rfl) rfl (by show 2 * 0 + _ ≤ _; exact Nat.le_of_eq rfl) (hb hby d14_44) (fun _ _ => ⟨rfl, e22, (by decide : 0 + 0 ≤ _), (by decide : 0 + 0 ≤ _)⟩)
    dsimp only [Pt.U, Pt.locs, Pt.cells, Pt.slots] at X24 l24 y24 z24 st24 hQ24
    subst l24 y24 z24
    obtain ⟨rfl, N24q, g24⟩ := hQ24
    rw [← g24] at O0
    rw [← g24] at E_a1 C_a1 V_a1 A_t1 E_a2 C_a2 V_a2 A_t2 Z0
    have N24 := Fr.app N0 N24q
    have go25 : Go p e below T24 (mkF m 47 #[.val (.ref a1), .val (.ref a2), .val (.ref a2)] [(.int (1 : Int32))]) S0 := fun t kt => go23 t (st24 _ kt)
    have go26 : Go p e below T24 (mkF m 55 #[.val (.ref a1), .val (.ref a2), .val (.ref a2)] [(.int (1 : Int32))]) S0 := by
      intro tt kt
      refine go25 tt ?_
      refine XS.ifNo X24.here hx rfl (hb hby d14_47) rfl ((if0 _ _).trans (feq (by decide)).1) ?_
      refine XS.iconst X24.here hx rfl (hb hby d14_50) ?_
      refine XS.goto X24.here hx rfl (pc0 := 51) (pc' := 55) rfl (hb hby d14_51) (by decide) (by decide) ?_
      exact kt
    exact own_leaveN (t := .boolean) (by simp) X24 hx hret hlk (hb hby d14_55) go26 rfl (⟨rfl, N24, g24⟩) (by decide) (by decide)
theorem efj_rm_max (m : MethodId) (p1 : Int32) (p2 : Int32) : entryFrame m #[(.int p1), (.int p2)] 2 = mkF m 0 #[.val (.int p1), .val (.int p2)] [] := by first | (simp [entryFrame, mkF, argsToLocals, Value.category]; done) | rfl
theorem d15_0 : Dc c0 0 (.iload_n 0) 1 := by decide +kernel
theorem d15_1 : Dc c0 1 (.iload_n 1) 1 := by decide +kernel
theorem d15_2 : Dc c0 2 (.if_icmp .lt 7) 3 := by decide +kernel
theorem d15_9 : Dc c0 9 (.iload_n 1) 1 := by decide +kernel
theorem d15_10 : Dc c0 10 (.ireturn) 1 := by decide +kernel
def Q_rm_max (Z : State) (p1 : Int32) (p2 : Int32) (h0 : Heap) (n0 : Nat) (v : Option Value) (h : Heap) (L : List Loc) : Prop := v = some (.int p2) ∧ Fr n0 L ∧ h = h0
theorem rm_max (l : Launch) (Z : State) (a0 : Array Value) (hw : Hw a0 Z) (ws : List Jvm.Cond) (p1 : Int32) (p2 : Int32) (h0 : Heap) (n0 : Nat) (Z0 : n0 ≤ h0.size) (hlt : p1 < p2) :
    MF l y53_ jdk_29_method_65_code 2 (some .int) ws (rM 0 0 0 0) #[(.int p1), (.int p2)] Z h0 (Q_rm_max Z p1 p2 h0 n0) := by
  refine own_bodyF n0 (Jvm.Free.JP.mathPlain rfl (by decide +kernel)) (fun m => efj_rm_max m p1 p2) ?_
  intro p e s m below meth c s₁ S0 hx hby hml hZ hown hnm hret hlk X0 e0 hh N0 hK go0
  have go1 : Go p e below s₁ (mkF m 10 #[.val (.int p1), .val (.int p2)] [(.int p2)]) S0 := by
    intro tt kt
    refine go0 tt ?_
    refine XS.iloadN X0.here hx rfl (hb hby d15_0) rfl ?_
    refine XS.iloadN X0.here hx rfl (hb hby d15_1) rfl ?_
    refine XS.icmpYes X0.here hx rfl (pc0 := 2) (pc' := 9) rfl (hb hby d15_2) rfl (tlt hlt).1 (by decide) (by decide) ?_
    refine XS.iloadN X0.here hx rfl (hb hby d15_9) rfl ?_
    exact kt
  exact own_leaveI X0 hx hret hlk (hb hby d15_10) go1 e0 (⟨rfl, N0, rfl⟩) (by decide) (by decide)
theorem efj_rm_min1 (m : MethodId) (p1 : Int32) (p2 : Int32) : entryFrame m #[(.int p1), (.int p2)] 2 = mkF m 0 #[.val (.int p1), .val (.int p2)] [] := by first | (simp [entryFrame, mkF, argsToLocals, Value.category]; done) | rfl
theorem d16_0 : Dc c1 0 (.iload_n 0) 1 := by decide +kernel
theorem d16_1 : Dc c1 1 (.iload_n 1) 1 := by decide +kernel
theorem d16_2 : Dc c1 2 (.if_icmp .gt 7) 3 := by decide +kernel
theorem d16_5 : Dc c1 5 (.iload_n 0) 1 := by decide +kernel
theorem d16_6 : Dc c1 6 (.goto 4) 3 := by decide +kernel
theorem d16_10 : Dc c1 10 (.ireturn) 1 := by decide +kernel
def Q_rm_min1 (Z : State) (p1 : Int32) (p2 : Int32) (h0 : Heap) (n0 : Nat) (v : Option Value) (h : Heap) (L : List Loc) : Prop := v = some (.int p1) ∧ Fr n0 L ∧ h = h0
theorem rm_min1 (l : Launch) (Z : State) (a0 : Array Value) (hw : Hw a0 Z) (ws : List Jvm.Cond) (p1 : Int32) (p2 : Int32) (h0 : Heap) (n0 : Nat) (Z0 : n0 ≤ h0.size) (hle : ¬ p2 < p1) :
    MF l y16_ jdk_29_method_69_code 2 (some .int) ws (rM 0 0 0 0) #[(.int p1), (.int p2)] Z h0 (Q_rm_min1 Z p1 p2 h0 n0) := by
  refine own_bodyF n0 (Jvm.Free.JP.mathPlain rfl (by decide +kernel)) (fun m => efj_rm_min1 m p1 p2) ?_
  intro p e s m below meth c s₁ S0 hx hby hml hZ hown hnm hret hlk X0 e0 hh N0 hK go0
  have go1 : Go p e below s₁ (mkF m 10 #[.val (.int p1), .val (.int p2)] [(.int p1)]) S0 := by
    intro tt kt
    refine go0 tt ?_
    refine XS.iloadN X0.here hx rfl (hb hby d16_0) rfl ?_
    refine XS.iloadN X0.here hx rfl (hb hby d16_1) rfl ?_
    refine XS.icmpNo X0.here hx rfl (hb hby d16_2) rfl (flt hle).2.2.1 ?_
    refine XS.iloadN X0.here hx rfl (hb hby d16_5) rfl ?_
    refine XS.goto X0.here hx rfl (pc0 := 6) (pc' := 10) rfl (hb hby d16_6) (by decide) (by decide) ?_
    exact kt
  exact own_leaveI X0 hx hret hlk (hb hby d16_10) go1 e0 (⟨rfl, N0, rfl⟩) (by decide) (by decide)
theorem efj_rm_min2 (m : MethodId) (p1 : Int32) (p2 : Int32) : entryFrame m #[(.int p1), (.int p2)] 2 = mkF m 0 #[.val (.int p1), .val (.int p2)] [] := by first | (simp [entryFrame, mkF, argsToLocals, Value.category]; done) | rfl
theorem d16_9 : Dc c1 9 (.iload_n 1) 1 := by decide +kernel
def Q_rm_min2 (Z : State) (p1 : Int32) (p2 : Int32) (h0 : Heap) (n0 : Nat) (v : Option Value) (h : Heap) (L : List Loc) : Prop := v = some (.int p2) ∧ Fr n0 L ∧ h = h0
theorem rm_min2 (l : Launch) (Z : State) (a0 : Array Value) (hw : Hw a0 Z) (ws : List Jvm.Cond) (p1 : Int32) (p2 : Int32) (h0 : Heap) (n0 : Nat) (Z0 : n0 ≤ h0.size) (hlt : p2 < p1) :
    MF l y16_ jdk_29_method_69_code 2 (some .int) ws (rM 0 0 0 0) #[(.int p1), (.int p2)] Z h0 (Q_rm_min2 Z p1 p2 h0 n0) := by
  refine own_bodyF n0 (Jvm.Free.JP.mathPlain rfl (by decide +kernel)) (fun m => efj_rm_min2 m p1 p2) ?_
  intro p e s m below meth c s₁ S0 hx hby hml hZ hown hnm hret hlk X0 e0 hh N0 hK go0
  have go1 : Go p e below s₁ (mkF m 10 #[.val (.int p1), .val (.int p2)] [(.int p2)]) S0 := by
    intro tt kt
    refine go0 tt ?_
    refine XS.iloadN X0.here hx rfl (hb hby d16_0) rfl ?_
    refine XS.iloadN X0.here hx rfl (hb hby d16_1) rfl ?_
    refine XS.icmpYes X0.here hx rfl (pc0 := 2) (pc' := 9) rfl (hb hby d16_2) rfl (tlt hlt).2.2.1 (by decide) (by decide) ?_
    refine XS.iloadN X0.here hx rfl (hb hby d16_9) rfl ?_
    exact kt
  exact own_leaveI X0 hx hret hlk (hb hby d16_10) go1 e0 (⟨rfl, N0, rfl⟩) (by decide) (by decide)
theorem pnj_17 : plainName "jdk/internal/util/ArraysSupport" = true := by first | (simp [plainName, overriddenIn]; done) | decide +kernel
theorem efj_rm_newLen (m : MethodId)  : entryFrame m #[(.int (16 : Int32)), (.int (1 : Int32)), (.int (18 : Int32))] 4 = mkF m 0 #[.val (.int (16 : Int32)), .val (.int (1 : Int32)), .val (.int (18 : Int32)), .unset] [] := by first | (simp [entryFrame, mkF, argsToLocals, Value.category]; done) | rfl
theorem d17_0 : Dc c19 0 (.iload_n 0) 1 := by decide +kernel
theorem d17_1 : Dc c19 1 (.iload_n 1) 1 := by decide +kernel
theorem d17_2 : Dc c19 2 (.iload_n 2) 1 := by decide +kernel
theorem pd27_ : parseMethodDescriptor "(II)I" = some ⟨[.int, .int], some .int⟩ := by decide +kernel
theorem d17_3 : Dc c19 3 (.invokestatic 194) 3 := by decide +kernel
theorem d17_6 : Dc c19 6 (.iadd) 1 := by decide +kernel
theorem d17_7 : Dc c19 7 (.istore_n 3) 1 := by decide +kernel
theorem d17_8 : Dc c19 8 (.iconst 0) 1 := by decide +kernel
theorem d17_9 : Dc c19 9 (.iload_n 3) 1 := by decide +kernel
theorem d17_10 : Dc c19 10 (.if_icmp .ge 11) 3 := by decide +kernel
theorem d17_13 : Dc c19 13 (.iload_n 3) 1 := by decide +kernel
theorem d17_14 : Dc c19 14 (.ldc 200) 2 := by decide +kernel
theorem d17_16 : Dc c19 16 (.if_icmp .gt 5) 3 := by decide +kernel
theorem d17_19 : Dc c19 19 (.iload_n 3) 1 := by decide +kernel
theorem d17_20 : Dc c19 20 (.ireturn) 1 := by decide +kernel
def Q_rm_newLen (Z : State)  (h0 : Heap) (n0 : Nat) (v : Option Value) (h : Heap) (L : List Loc) : Prop := v = some (.int (34 : Int32)) ∧ Fr n0 L ∧ h = h0
theorem rm_newLen (l : Launch) (Z : State) (a0 : Array Value) (hw : Hw a0 Z) (ws : List Jvm.Cond)  (h0 : Heap) (n0 : Nat) (Z0 : n0 ≤ h0.size) :
    MF l y43_ jdk_48_method_27_code 4 (some .int) ws (rM 1 0 0 14) #[(.int (16 : Int32)), (.int (1 : Int32)), (.int (18 : Int32))] Z h0 (Q_rm_newLen Z  h0 n0) := by
  refine own_bodyF n0 (plainFor_of_name pnj_17) (fun m => efj_rm_newLen m ) ?_
  intro p e s m below meth c s₁ S0 hx hby hml hZ hown hnm hret hlk X0 e0 hh N0 hK go0
  have go1 : Go p e below s₁ (mkF m 3 #[.val (.int (16 : Int32)), .val (.int (1 : Int32)), .val (.int (18 : Int32)), .unset] [(.int (18 : Int32)), (.int (1 : Int32)), (.int (16 : Int32))]) S0 := by
    intro tt kt
    refine go0 tt ?_
    refine XS.iloadN X0.here hx rfl (hb hby d17_0) rfl ?_
    refine XS.iloadN X0.here hx rfl (hb hby d17_1) rfl ?_
    refine XS.iloadN X0.here hx rfl (hb hby d17_2) rfl ?_
    exact kt
  obtain ⟨_, _, ⟨T2, L2, k2, n2⟩, -, X2, ⟨Lc2, hQ2, l2, y2, z2⟩, st2⟩ := Jvm.LawKit.callS X0 hx (y := y53_) hown (mvT hZ (wi hw 119 rfl)) (mvT hZ (wi hw 120 rfl)) (mvT hZ (wi hw 121 rfl)) (mvT hZ (wi hw 122 rfl)) (by decide) (backOf (W := 1) (rm_max l Z a0 hw [] (1 : Int32) (18 : Int32) h0 n0 Z0 (by decide)) hZ (wi hw 122 rfl) (wi hw 121 rfl) (by decide) (by decide)) (g := (mkF m 3 #[.val (.int (16 : Int32)), .val (.int (1 : Int32)), .val (.int (18 : Int32)), .unset] [(.int (18 : Int32)), (.int (1 : Int32)), (.int (16 : Int32))])) rfl (by rw [hml]; rfl) (argsL := [(.int (1 : Int32)), (.int (18 : Int32))]) (rest := [(.int (16 : Int32))]) (lenOf pd27_ rfl) rfl (by show 2 * 0 + _ ≤ _; exact Nat.le_of_eq rfl) (hb hby d17_3) (fun _ _ => ⟨rfl, e0, (by decide : 0 + 0 ≤ _), (by decide : 0 + 0 ≤ _)⟩)
  dsimp only [Pt.U, Pt.locs, Pt.cells, Pt.slots] at X2 l2 y2 z2 st2 hQ2
  subst l2 y2 z2
  obtain ⟨rfl, N2q, g2⟩ := hQ2
  rw [← g2] at Z0
  have N2 := Fr.app N0 N2q
  have go3 : Go p e below T2 (mkF m 6 #[.val (.int (16 : Int32)), .val (.int (1 : Int32)), .val (.int (18 : Int32)), .unset] [(.int (18 : Int32)), (.int (16 : Int32))]) S0 := fun t kt => go1 t (st2 _ kt)
  have go4 : Go p e below T2 (mkF m 20 #[.val (.int (16 : Int32)), .val (.int (1 : Int32)), .val (.int (18 : Int32)), .val (.int (34 : Int32))] [(.int (34 : Int32))]) S0 := by
    intro tt kt
    refine go3 tt ?_
    refine XS.iadd X2.here hx rfl (hb hby d17_6) rfl ?_
    refine XS.istoreN X2.here hx rfl (hb hby d17_7) rfl (l' := #[.val (.int (16 : Int32)), .val (.int (1 : Int32)), .val (.int (18 : Int32)), .val (.int (34 : Int32))]) rfl ?_
    refine XS.iconst X2.here hx rfl (hb hby d17_8) ?_
    refine XS.iloadN X2.here hx rfl (hb hby d17_9) rfl ?_
    refine XS.icmpNo X2.here hx rfl (hb hby d17_10) rfl (tlt (by decide)).2.1 ?_
    refine XS.iloadN X2.here hx rfl (hb hby d17_13) rfl ?_
    refine X2.ldcInt hx hown (mvT hZ (wi hw 123 rfl)) (g := (mkF m 14 #[.val (.int (16 : Int32)), .val (.int (1 : Int32)), .val (.int (18 : Int32)), .val (.int (34 : Int32))] [(.int (34 : Int32))])) rfl (hb hby d17_14) _ ?_
    refine XS.icmpNo X2.here hx rfl (hb hby d17_16) rfl (flt (by decide)).2.2.1 ?_
    refine XS.iloadN X2.here hx rfl (hb hby d17_19) rfl ?_
    exact kt
  exact own_leaveI X2 hx hret hlk (hb hby d17_20) go4 rfl (⟨rfl, N2, g2⟩) (by decide) (by decide)
theorem pnj_18 : plainName "java/util/Arrays" = true := by first | (simp [plainName, overriddenIn]; done) | decide +kernel
theorem efj_rm_copyOf (m : MethodId) (a1 : Addr) : entryFrame m #[(.ref a1), (.int (34 : Int32))] 3 = mkF m 0 #[.val (.ref a1), .val (.int (34 : Int32)), .unset] [] := by first | (simp [entryFrame, mkF, argsToLocals, Value.category]; done) | rfl
theorem d18_0 : Dc c34 0 (.iload_n 1) 1 := by decide +kernel
theorem d18_1 : Dc c34 1 (.aload_n 0) 1 := by decide +kernel
theorem d18_2 : Dc c34 2 (.arraylength) 1 := by decide +kernel
theorem d18_3 : Dc c34 3 (.if_icmp .ne 11) 3 := by decide +kernel
theorem d18_14 : Dc c34 14 (.iload_n 1) 1 := by decide +kernel
theorem d18_15 : Dc c34 15 (.newarray .byte) 2 := by decide +kernel
theorem d18_17 : Dc c34 17 (.astore_n 2) 1 := by decide +kernel
theorem d18_18 : Dc c34 18 (.aload_n 0) 1 := by decide +kernel
theorem d18_19 : Dc c34 19 (.iconst 0) 1 := by decide +kernel
theorem d18_20 : Dc c34 20 (.aload_n 2) 1 := by decide +kernel
theorem d18_21 : Dc c34 21 (.iconst 0) 1 := by decide +kernel
theorem d18_22 : Dc c34 22 (.aload_n 0) 1 := by decide +kernel
theorem d18_23 : Dc c34 23 (.arraylength) 1 := by decide +kernel
theorem d18_24 : Dc c34 24 (.iload_n 1) 1 := by decide +kernel
theorem d18_25 : Dc c34 25 (.invokestatic 304) 3 := by decide +kernel
theorem d18_28 : Dc c34 28 (.invokestatic 150) 3 := by decide +kernel
theorem d18_31 : Dc c34 31 (.aload_n 2) 1 := by decide +kernel
theorem d18_32 : Dc c34 32 (.areturn) 1 := by decide +kernel
def Q_rm_copyOf (Z : State) (a1 : Addr) (k1 : ClassId) (h0 : Heap) (n0 : Nat) (v : Option Value) (h : Heap) (L : List Loc) : Prop := ∃ (u : Addr) (k : ClassId), v = some (.ref u) ∧ Fr n0 L ∧ Ext h0 h ∧ Arv Z h u k .byte (34 : Int32) (List.replicate 34 (Value.int (0 : Int32))) (.int (0 : Int32)) ∧ h0.size ≤ u
theorem rm_copyOf (l : Launch) (Z : State) (a0 : Array Value) (hw : Hw a0 Z) (ws : List Jvm.Cond) (a1 : Addr) (k1 : ClassId) (h0 : Heap) (n0 : Nat) (Z0 : n0 ≤ h0.size) (V_a1 : Arv Z h0 a1 k1 .byte (16 : Int32) (List.replicate 16 (Value.int (0 : Int32))) (.int (0 : Int32))) :
    MF l y55_ jdk_65_method_121_code 3 (some (.array .byte)) ws (rM 1 1 34 18) #[(.ref a1), (.int (34 : Int32))] Z h0 (Q_rm_copyOf Z a1 k1 h0 n0) := by
  refine own_bodyF n0 (plainFor_of_name pnj_18) (fun m => efj_rm_copyOf m a1) ?_
  intro p e s m below meth c s₁ S0 hx hby hml hZ hown hnm hret hlk X0 e0 hh N0 hK go0
  have K0 : Keep h0 h0 [] := Keep.refl h0 []
  have go1 : Go p e below s₁ (mkF m 2 #[.val (.ref a1), .val (.int (34 : Int32)), .unset] [(.ref a1), (.int (34 : Int32))]) S0 := by
    intro tt kt
    refine go0 tt ?_
    refine XS.iloadN X0.here hx rfl (hb hby d18_0) rfl ?_
    refine XS.aloadN X0.here hx rfl (hb hby d18_1) rfl rfl ?_
    exact kt
  obtain ⟨cl2, Ar2, q2, S2, N2, H2, G2⟩ := id V_a1
  have go3 : Go p e below s₁ (mkF m 15 #[.val (.ref a1), .val (.int (34 : Int32)), .unset] [(.int (34 : Int32))]) S0 := by
    intro tt kt
    refine go1 tt ?_
    refine X0.arraylength hx (by rw [e0]; exact Ar2.1) (State.isArrayOf_alike hZ.alike Ar2.2.1) (g := (mkF m 2 #[.val (.ref a1), .val (.int (34 : Int32)), .unset] [(.ref a1), (.int (34 : Int32))])) rfl rfl (hb hby d18_2) _ ?_
    rw [len_of S2 N2]
    refine XS.icmpYes X0.here hx rfl (pc0 := 3) (pc' := 14) rfl (hb hby d18_3) rfl (feq (by decide)).2 (by decide) (by decide) ?_
    refine XS.iloadN X0.here hx rfl (hb hby d18_14) rfl ?_
    exact kt
  obtain ⟨T4, h4, k4, X4, e4, E4, A4, st4⟩ := newP X0 hx hZ (wi hw 16 rfl) e0 (g := (mkF m 15 #[.val (.ref a1), .val (.int (34 : Int32)), .unset] [(.int (34 : Int32))])) rfl (hb hby d18_15) rfl (by decide) (cap := 34) (by decide) (by decide) (by decide) (by decide)
  obtain ⟨u, g4⟩ : ∃ z, z = h0.size := ⟨_, rfl⟩
  rw [← g4] at A4 st4
  have g_u : n0 ≤ u := Nat.le_trans Z0 (Nat.le_of_eq g4.symm)
  have sz_u : h0.size ≤ u := Nat.le_trans K0.1 (Nat.le_of_eq g4.symm)
  have ne_a1_u : a1 ≠ u := Nat.ne_of_lt (Nat.lt_of_lt_of_le V_a1.lt (Nat.le_of_eq g4.symm))
  have ne_u_a1 := ne_a1_u.symm
  have V_a1 := V_a1.ext E4
  have Z0 := Nat.le_trans Z0 E4.1
  have K0 := K0.ext E4
  have go5 : Go p e below T4 (mkF m 17 #[.val (.ref a1), .val (.int (34 : Int32)), .unset] [(.ref u)]) S0 := fun t kt => go3 t (st4 _ kt)
  have V_u : Arv Z h4 u k4 .byte (34 : Int32) (List.replicate 34 (Value.int (0 : Int32))) (.int (0 : Int32)) := (Arv.new A4 (by decide)).pad (pad_rep [] (.int (0 : Int32)) 34)
  have go6 : Go p e below T4 (mkF m 23 #[.val (.ref a1), .val (.int (34 : Int32)), .val (.ref u)] [(.ref a1), (.int (0 : Int32)), (.ref u), (.int (0 : Int32)), (.ref a1)]) S0 := by
    intro tt kt
    refine go5 tt ?_
    refine XS.astoreN X4.here hx rfl (hb hby d18_17) rfl rfl (l' := #[.val (.ref a1), .val (.int (34 : Int32)), .val (.ref u)]) rfl ?_
    refine XS.aloadN X4.here hx rfl (hb hby d18_18) rfl rfl ?_
    refine XS.iconst X4.here hx rfl (hb hby d18_19) ?_
    refine XS.aloadN X4.here hx rfl (hb hby d18_20) rfl rfl ?_
    refine XS.iconst X4.here hx rfl (hb hby d18_21) ?_
    refine XS.aloadN X4.here hx rfl (hb hby d18_22) rfl rfl ?_
    exact kt
  obtain ⟨cl7, Ar7, q7, S7, N7, H7, G7⟩ := id V_a1
  have go8 : Go p e below T4 (mkF m 25 #[.val (.ref a1), .val (.int (34 : Int32)), .val (.ref u)] [(.int (34 : Int32)), (.int (16 : Int32)), (.int (0 : Int32)), (.ref u), (.int (0 : Int32)), (.ref a1)]) S0 := by
    intro tt kt
    refine go6 tt ?_
    refine X4.arraylength hx (by rw [e4]; exact Ar7.1) (State.isArrayOf_alike hZ.alike Ar7.2.1) (g := (mkF m 23 #[.val (.ref a1), .val (.int (34 : Int32)), .val (.ref u)] [(.ref a1), (.int (0 : Int32)), (.ref u), (.int (0 : Int32)), (.ref a1)])) rfl rfl (hb hby d18_23) _ ?_
    rw [len_of S7 N7]
    refine XS.iloadN X4.here hx rfl (hb hby d18_24) rfl ?_
    exact kt
  obtain ⟨_, _, ⟨T9, L9, k9, n9⟩, -, X9, ⟨Lc9, hQ9, l9, y9, z9⟩, st9⟩ := Jvm.LawKit.callS X4 hx (y := y16_) hown (mvT hZ (wi hw 129 rfl)) (mvT hZ (wi hw 130 rfl)) (mvT hZ (wi hw 121 rfl)) (mvT hZ (wi hw 131 rfl)) (by decide) (backOf (W := 4) (rm_min1 l Z a0 hw [] (16 : Int32) (34 : Int32) h4 n0 Z0 (by decide)) hZ (wi hw 131 rfl) (wi hw 121 rfl) (by decide) (by decide)) (g := (mkF m 25 #[.val (.ref a1), .val (.int (34 : Int32)), .val (.ref u)] [(.int (34 : Int32)), (.int (16 : Int32)), (.int (0 : Int32)), (.ref u), (.int (0 : Int32)), (.ref a1)])) rfl (by rw [hml]; rfl) (argsL := [(.int (16 : Int32)), (.int (34 : Int32))]) (rest := [(.int (0 : Int32)), (.ref u), (.int (0 : Int32)), (.ref a1)]) (lenOf pd27_ rfl) rfl (by show 2 * 0 + _ ≤ _; exact Nat.le_of_eq rfl) (hb hby d18_25) (fun _ _ => ⟨rfl, e4, (by decide : 1 + 0 ≤ _), (by decide : 34 + 0 ≤ _)⟩)
  dsimp only [Pt.U, Pt.locs, Pt.cells, Pt.slots] at X9 l9 y9 z9 st9 hQ9
  subst l9 y9 z9
  obtain ⟨rfl, N9q, g9⟩ := hQ9
  have K0 := own_ks g9 K0
  rw [← g9] at V_a1 V_u Z0
  have N9 := Fr.app N0 N9q
  have go10 : Go p e below T9 (mkF m 28 #[.val (.ref a1), .val (.int (34 : Int32)), .val (.ref u)] [(.int (16 : Int32)), (.int (0 : Int32)), (.ref u), (.int (0 : Int32)), (.ref a1)]) S0 := fun t kt => go8 t (st9 _ kt)
  obtain ⟨T11, h11, L11, X11, e11, N11, K11, V11, st11⟩ := cpA X9 hx hZ hown (wi hw 132 rfl) (wi hw 135 rfl) (wi hw 133 rfl) (wi hw 134 rfl) rfl V_a1 V_u (Or.inl ⟨rfl, rfl⟩) (by decide) (by decide) (by decide) (by decide) (by decide) (us := (List.replicate 16 (Value.int (0 : Int32)))) (by decide +kernel) (by decide) N9 g_u (g := (mkF m 28 #[.val (.ref a1), .val (.int (34 : Int32)), .val (.ref u)] [(.int (16 : Int32)), (.int (0 : Int32)), (.ref u), (.int (0 : Int32)), (.ref a1)])) rfl (by rw [hml]; rfl) rfl (hb hby d18_28) (by decide) (W := 0) (by show 2 * 0 + _ ≤ _; exact Nat.le_of_eq rfl) (by decide)
  have V_a1 := V_a1.keep K11 (ninS ne_a1_u nin0)
  have V_u : Arv Z h11 u k4 .byte (34 : Int32) (List.replicate 34 (Value.int (0 : Int32))) (.int (0 : Int32)) := oA V11 (by decide +kernel)
  have Z0 := Nat.le_trans Z0 K11.1
  have K0 := K0.trans K11 (allS (Or.inr sz_u) all0)
  have go12 : Go p e below T11 (mkF m 31 #[.val (.ref a1), .val (.int (34 : Int32)), .val (.ref u)] []) S0 := fun t kt => go10 t (st11 _ kt)
  have go13 : Go p e below T11 (mkF m 32 #[.val (.ref a1), .val (.int (34 : Int32)), .val (.ref u)] [(.ref u)]) S0 := by
    intro tt kt
    refine go12 tt ?_
    refine XS.aloadN X11.here hx rfl (hb hby d18_31) rfl rfl ?_
    exact kt
  exact own_leaveA X11 hx hret hlk (hb hby d18_32) go13 e11 (⟨u, k4, rfl, N11, oE K0, V_u, sz_u⟩) (by decide) (by decide)
theorem pnj_19 : plainName "java/lang/AbstractStringBuilder" = true := by first | (simp [plainName, overriddenIn]; done) | decide +kernel
theorem efj_rm_abi (m : MethodId) (b : Addr) : entryFrame m #[(.ref b), (.int (16 : Int32))] 2 = mkF m 0 #[.val (.ref b), .val (.int (16 : Int32))] [] := by first | (simp [entryFrame, mkF, argsToLocals, Value.category]; done) | rfl
theorem d19_0 : Dc c46 0 (.aload_n 0) 1 := by decide +kernel
theorem d19_1 : Dc c46 1 (.invokespecial 3) 3 := by decide +kernel
theorem d19_4 : Dc c46 4 (.getstatic 18) 3 := by decide +kernel
theorem d19_7 : Dc c46 7 (.ifCond .eq 18) 3 := by decide +kernel
theorem d19_10 : Dc c46 10 (.aload_n 0) 1 := by decide +kernel
theorem d19_11 : Dc c46 11 (.iload_n 1) 1 := by decide +kernel
theorem d19_12 : Dc c46 12 (.newarray .byte) 2 := by decide +kernel
theorem d19_14 : Dc c46 14 (.putfield 15) 3 := by decide +kernel
theorem d19_17 : Dc c46 17 (.aload_n 0) 1 := by decide +kernel
theorem d19_18 : Dc c46 18 (.iconst 0) 1 := by decide +kernel
theorem d19_19 : Dc c46 19 (.putfield 22) 3 := by decide +kernel
theorem d19_22 : Dc c46 22 (.goto 16) 3 := by decide +kernel
theorem d19_38 : Dc c46 38 (.return_) 1 := by decide +kernel
def Q_rm_abi (Z : State) (b : Addr) (zc : Int32) (h0 : Heap) (n0 : Nat) (v : Option Value) (h : Heap) (L : List Loc) : Prop := ∃ (u : Addr) (k : ClassId), v = none ∧ Fr n0 L ∧ Keep h0 h [b] ∧ Exa Z h b "java/lang/StringBuilder" ∧ Fld Z h b "java/lang/AbstractStringBuilder" "value" "[B" (.ref u) ∧ Fld Z h b "java/lang/AbstractStringBuilder" "coder" "B" (.int (0 : Int32)) ∧ Fld Z h b "java/lang/AbstractStringBuilder" "count" "I" (.int (0 : Int32)) ∧ Fld Z h b "java/lang/AbstractStringBuilder" "maybeLatin1" "Z" (.int (0 : Int32)) ∧ Arv Z h u k .byte (16 : Int32) (List.replicate 16 (Value.int (0 : Int32))) (.int (0 : Int32))
theorem rm_abi (l : Launch) (Z : State) (a0 : Array Value) (hw : Hw a0 Z) (ws : List Jvm.Cond) (b : Addr) (zc : Int32) (h0 : Heap) (n0 : Nat) (Z0 : n0 ≤ h0.size) (O0 : Ext Z.heap h0) (hn0 : Z.heap.size ≤ n0) (S_CS : Sta Z Z.heap "java/lang/String" "COMPACT_STRINGS" "Z" (.int zc)) (P5 : ¬ zc = (0 : Int32)) (E_b : Exa Z h0 b "java/lang/StringBuilder") (F_value_b : Fld Z h0 b "java/lang/AbstractStringBuilder" "value" "[B" .null) (F_coder_b : Fld Z h0 b "java/lang/AbstractStringBuilder" "coder" "B" (.int (0 : Int32))) (F_count_b : Fld Z h0 b "java/lang/AbstractStringBuilder" "count" "I" (.int (0 : Int32))) (F_maybeLatin1_b : Fld Z h0 b "java/lang/AbstractStringBuilder" "maybeLatin1" "Z" (.int (0 : Int32))) (g_b : n0 ≤ b) :
    MF l y36_ jdk_68_method_2_code 2 none ws (rM 1 1 16 12) #[(.ref b), (.int (16 : Int32))] Z h0 (Q_rm_abi Z b zc h0 n0) := by
  refine own_bodyF n0 (plainFor_of_name pnj_19) (fun m => efj_rm_abi m b) ?_
  intro p e s m below meth c s₁ S0 hx hby hml hZ hown hnm hret hlk X0 e0 hh N0 hK go0
  have K0 : Keep h0 h0 [b] := Keep.refl h0 [b]
  have go1 : Go p e below s₁ (mkF m 1 #[.val (.ref b), .val (.int (16 : Int32))] [(.ref b)]) S0 := by
    intro tt kt
    refine go0 tt ?_
    refine XS.aloadN X0.here hx rfl (hb hby d19_0) rfl rfl ?_
    exact kt
  obtain ⟨T2, X2, e2, st2⟩ := initO X0 hx hZ hown (wi hw 76 rfl) (wi hw 13 rfl) (wi hw 14 rfl) e0 (g := (mkF m 1 #[.val (.ref b), .val (.int (16 : Int32))] [(.ref b)])) rfl (by rw [hml]; rfl) rfl (hb hby d19_1) (by decide) (W := 0) (by show 2 * 0 + _ ≤ _; exact Nat.le_of_eq rfl) (by decide)
  have go3 : Go p e below T2 (mkF m 4 #[.val (.ref b), .val (.int (16 : Int32))] []) S0 := fun t kt => go1 t (st2 _ kt)
  have S_N := S_CS.ext (oO O0 K0 hn0 (allS g_b all0))
  obtain ⟨T4, X4, e4, st4⟩ := getS2 X2 hx hZ hown (host := "") (Or.inl (wi hw 77 rfl)) Via.refl e2 S_N (g := (mkF m 4 #[.val (.ref b), .val (.int (16 : Int32))] [])) rfl (hb hby d19_4)
  have go5 : Go p e below T4 (mkF m 7 #[.val (.ref b), .val (.int (16 : Int32))] [(.int zc)]) S0 := fun t kt => go3 t (st4 _ kt)
  have go6 : Go p e below T4 (mkF m 12 #[.val (.ref b), .val (.int (16 : Int32))] [(.int (16 : Int32)), (.ref b)]) S0 := by
    intro tt kt
    refine go5 tt ?_
    refine XS.ifNo X4.here hx rfl (hb hby d19_7) rfl ((if0 _ _).trans (feq P5).1) ?_
    refine XS.aloadN X4.here hx rfl (hb hby d19_10) rfl rfl ?_
    refine XS.iloadN X4.here hx rfl (hb hby d19_11) rfl ?_
    exact kt
  obtain ⟨T7, h7, k7, X7, e7, E7, A7, st7⟩ := newP X4 hx hZ (wi hw 16 rfl) e4 (g := (mkF m 12 #[.val (.ref b), .val (.int (16 : Int32))] [(.int (16 : Int32)), (.ref b)])) rfl (hb hby d19_12) rfl (by decide) (cap := 16) (by decide) (by decide) (by decide) (by decide)
  obtain ⟨u, g7⟩ : ∃ z, z = h0.size := ⟨_, rfl⟩
  rw [← g7] at A7 st7
  have g_u : n0 ≤ u := Nat.le_trans Z0 (Nat.le_of_eq g7.symm)
  have sz_u : h0.size ≤ u := Nat.le_trans K0.1 (Nat.le_of_eq g7.symm)
  have ne_b_u : b ≠ u := Nat.ne_of_lt (Nat.lt_of_lt_of_le E_b.lt (Nat.le_of_eq g7.symm))
  have ne_u_b := ne_b_u.symm
  have E_b := E_b.ext E7
  have F_value_b := F_value_b.ext E7
  have F_coder_b := F_coder_b.ext E7
  have F_count_b := F_count_b.ext E7
  have F_maybeLatin1_b := F_maybeLatin1_b.ext E7
  have Z0 := Nat.le_trans Z0 E7.1
  have K0 := K0.ext E7
  have go8 : Go p e below T7 (mkF m 14 #[.val (.ref b), .val (.int (16 : Int32))] [(.ref u), (.ref b)]) S0 := fun t kt => go6 t (st7 _ kt)
  have V_u : Arv Z h7 u k7 .byte (16 : Int32) (List.replicate 16 (Value.int (0 : Int32))) (.int (0 : Int32)) := (Arv.new A7 (by decide)).pad (pad_rep [] (.int (0 : Int32)) 16)
  obtain ⟨T9, h9, X9, e9, W9, st9⟩ := putF X7 hx hZ hown (host := "") (Or.inl (wi hw 78 rfl)) Via.refl e7 F_value_b E_b (Or.inl (wi hw 79 rfl)) (wi hw 65 rfl) (ty := (.array .byte)) (by decide) rfl rfl (g := (mkF m 14 #[.val (.ref b), .val (.int (16 : Int32))] [(.ref u), (.ref b)])) rfl rfl (hb hby d19_14)
  have E_b := E_b.wr W9
  have F_coder_b := F_coder_b.other W9 (Or.inr (slot_ne (Or.inl (wi hw 81 rfl)) (Or.inl (wi hw 79 rfl)) (by decide) (t := .byte) (t' := (.array .byte)) (by decide) (by decide)))
  have F_count_b := F_count_b.other W9 (Or.inr (slot_ne (Or.inl (wi hw 104 rfl)) (Or.inl (wi hw 79 rfl)) (by decide) (t := .int) (t' := (.array .byte)) (by decide) (by decide)))
  have F_maybeLatin1_b := F_maybeLatin1_b.other W9 (Or.inr (slot_ne (Or.inl (wi hw 322 rfl)) (Or.inl (wi hw 79 rfl)) (by decide) (t := .boolean) (t' := (.array .byte)) (by decide) (by decide)))
  have V_u := V_u.other W9 ne_u_b
  have F_value_b := F_value_b.same W9
  have Z0 := Nat.le_trans Z0 (Keep.of_wr W9).1
  have K0 := K0.wr W9 (Or.inl (List.mem_of_getElem? (i := 0) rfl))
  have N9r := Fr.snoc X9 N0 g_b
  have go10 : Go p e below T9 (mkF m 17 #[.val (.ref b), .val (.int (16 : Int32))] []) S0 := fun t kt => go8 t (st9 _ kt)
  have go11 : Go p e below T9 (mkF m 19 #[.val (.ref b), .val (.int (16 : Int32))] [(.int (0 : Int32)), (.ref b)]) S0 := by
    intro tt kt
    refine go10 tt ?_
    refine XS.aloadN X9.here hx rfl (hb hby d19_17) rfl rfl ?_
    refine XS.iconst X9.here hx rfl (hb hby d19_18) ?_
    exact kt
  obtain ⟨T12, h12, X12, e12, W12, st12⟩ := putFN X9 hx hZ hown (wi hw 80 rfl) Via.refl e9 F_coder_b E_b (Or.inl (wi hw 81 rfl)) (wi hw 65 rfl) (ty := .byte) (v' := (.int (0 : Int32))) (by decide) rfl rfl (g := (mkF m 19 #[.val (.ref b), .val (.int (16 : Int32))] [(.int (0 : Int32)), (.ref b)])) rfl rfl (hb hby d19_19)
  have E_b := E_b.wr W12
  have F_value_b := F_value_b.other W12 (Or.inr (slot_ne (Or.inl (wi hw 79 rfl)) (Or.inl (wi hw 81 rfl)) (by decide) (t := (.array .byte)) (t' := .byte) (by decide) (by decide)))
  have F_count_b := F_count_b.other W12 (Or.inr (slot_ne (Or.inl (wi hw 104 rfl)) (Or.inl (wi hw 81 rfl)) (by decide) (t := .int) (t' := .byte) (by decide) (by decide)))
  have F_maybeLatin1_b := F_maybeLatin1_b.other W12 (Or.inr (slot_ne (Or.inl (wi hw 322 rfl)) (Or.inl (wi hw 81 rfl)) (by decide) (t := .boolean) (t' := .byte) (by decide) (by decide)))
  have V_u := V_u.other W12 ne_u_b
  have F_coder_b := F_coder_b.same W12
  have Z0 := Nat.le_trans Z0 (Keep.of_wr W12).1
  have K0 := K0.wr W12 (Or.inl (List.mem_of_getElem? (i := 0) rfl))
  have N12r := Fr.snoc X12 N9r g_b
  have go13 : Go p e below T12 (mkF m 22 #[.val (.ref b), .val (.int (16 : Int32))] []) S0 := fun t kt => go11 t (st12 _ kt)
  have go14 : Go p e below T12 (mkF m 38 #[.val (.ref b), .val (.int (16 : Int32))] []) S0 := by
    intro tt kt
    refine go13 tt ?_
    refine XS.goto X12.here hx rfl (pc0 := 22) (pc' := 38) rfl (hb hby d19_22) (by decide) (by decide) ?_
    exact kt
  exact own_leaveV X12 hx hret hlk (hb hby d19_38) go14 e12 (⟨u, k7, rfl, N12r, K0, E_b, F_value_b, F_coder_b, F_count_b, F_maybeLatin1_b, V_u⟩) (by decide) (by decide)
theorem pnj_20 : plainName "java/lang/StringBuilder" = true := by first | (simp [plainName, overriddenIn]; done) | decide +kernel
theorem efj_rm_sbi (m : MethodId) (b : Addr) : entryFrame m #[(.ref b)] 1 = mkF m 0 #[.val (.ref b)] [] := by first | (simp [entryFrame, mkF, argsToLocals, Value.category]; done) | rfl
theorem d20_0 : Dc c38 0 (.aload_n 0) 1 := by decide +kernel
theorem d20_1 : Dc c38 1 (.bipush 16) 2 := by decide +kernel
theorem pd32_ : parseMethodDescriptor "(I)V" = some ⟨[.int], none⟩ := by decide +kernel
theorem d20_3 : Dc c38 3 (.invokespecial 1) 3 := by decide +kernel
theorem d20_6 : Dc c38 6 (.return_) 1 := by decide +kernel
def Q_rm_sbi (Z : State) (b : Addr) (zc : Int32) (h0 : Heap) (n0 : Nat) (v : Option Value) (h : Heap) (L : List Loc) : Prop := ∃ (u : Addr) (k : ClassId), v = none ∧ Fr n0 L ∧ Keep h0 h [b] ∧ Exa Z h b "java/lang/StringBuilder" ∧ Fld Z h b "java/lang/AbstractStringBuilder" "value" "[B" (.ref u) ∧ Fld Z h b "java/lang/AbstractStringBuilder" "coder" "B" (.int (0 : Int32)) ∧ Fld Z h b "java/lang/AbstractStringBuilder" "count" "I" (.int (0 : Int32)) ∧ Fld Z h b "java/lang/AbstractStringBuilder" "maybeLatin1" "Z" (.int (0 : Int32)) ∧ Arv Z h u k .byte (16 : Int32) (List.replicate 16 (Value.int (0 : Int32))) (.int (0 : Int32))
theorem rm_sbi (l : Launch) (Z : State) (a0 : Array Value) (hw : Hw a0 Z) (ws : List Jvm.Cond) (b : Addr) (zc : Int32) (h0 : Heap) (n0 : Nat) (Z0 : n0 ≤ h0.size) (O0 : Ext Z.heap h0) (hn0 : Z.heap.size ≤ n0) (S_CS : Sta Z Z.heap "java/lang/String" "COMPACT_STRINGS" "Z" (.int zc)) (P5 : ¬ zc = (0 : Int32)) (E_b : Exa Z h0 b "java/lang/StringBuilder") (F_value_b : Fld Z h0 b "java/lang/AbstractStringBuilder" "value" "[B" .null) (F_coder_b : Fld Z h0 b "java/lang/AbstractStringBuilder" "coder" "B" (.int (0 : Int32))) (F_count_b : Fld Z h0 b "java/lang/AbstractStringBuilder" "count" "I" (.int (0 : Int32))) (F_maybeLatin1_b : Fld Z h0 b "java/lang/AbstractStringBuilder" "maybeLatin1" "Z" (.int (0 : Int32))) (g_b : n0 ≤ b) :
    MF l y27_ jdk_67_method_1_code 1 none ws (rM 2 1 16 25) #[(.ref b)] Z h0 (Q_rm_sbi Z b zc h0 n0) := by
  refine own_bodyF n0 (plainFor_of_name pnj_20) (fun m => efj_rm_sbi m b) ?_
  intro p e s m below meth c s₁ S0 hx hby hml hZ hown hnm hret hlk X0 e0 hh N0 hK go0
  have go1 : Go p e below s₁ (mkF m 3 #[.val (.ref b)] [(.int (16 : Int32)), (.ref b)]) S0 := by
    intro tt kt
    refine go0 tt ?_
    refine XS.aloadN X0.here hx rfl (hb hby d20_0) rfl rfl ?_
    refine XS.bipush X0.here hx rfl (hb hby d20_1) ?_
    exact kt
  obtain ⟨_, _, ⟨T2, L2, k2, n2⟩, -, X2, ⟨Lc2, hQ2, l2, y2, z2⟩, st2⟩ := X0.specialBack hx (y := y36_) rfl hown (mvT hZ (wi hw 70 rfl)) (mvT hZ (wi hw 71 rfl)) (mvT hZ (wi hw 75 rfl)) (by decide) (backOf (W := 0) (rm_abi l Z a0 hw [] b zc h0 n0 Z0 O0 hn0 S_CS P5 E_b F_value_b F_coder_b F_count_b F_maybeLatin1_b g_b) hZ (wi hw 75 rfl) (wi hw 74 rfl) (by decide) (by decide)) (g := (mkF m 3 #[.val (.ref b)] [(.int (16 : Int32)), (.ref b)])) rfl (by rw [hml]; rfl) (Steps.refl _) (a := b) (argsL := [(.int (16 : Int32))]) (rest := []) (lenOf pd32_ rfl) rfl (by show 2 * 0 + _ ≤ _; exact Nat.le_of_eq rfl) (hb hby d20_3) (fun _ _ => ⟨rfl, e0, (by decide : 0 + 1 ≤ _), (by decide : 0 + 16 ≤ _)⟩)
  dsimp only [Pt.U, Pt.locs, Pt.cells, Pt.slots] at X2 l2 y2 z2 st2 hQ2
  subst l2 y2 z2
  obtain ⟨u, ku, rfl, N2q, K2, R2⟩ := hQ2
  have N2 := Fr.app N0 N2q
  have go3 : Go p e below T2 (mkF m 6 #[.val (.ref b)] []) S0 := fun t kt => go1 t (st2.trans kt)
  exact own_leaveV X2 hx hret hlk (hb hby d20_6) go3 rfl (⟨u, ku, rfl, N2, K2, R2⟩) (by decide) (by decide)
theorem pnj_21 : plainName "java/lang/AbstractStringBuilder" = true := by first | (simp [plainName, overriddenIn]; done) | decide +kernel
theorem efj_rm_ncap (m : MethodId) (b : Addr) : entryFrame m #[(.ref b), (.int (17 : Int32))] 6 = mkF m 0 #[.val (.ref b), .val (.int (17 : Int32)), .unset, .unset, .unset, .unset] [] := by first | (simp [entryFrame, mkF, argsToLocals, Value.category]; done) | rfl
theorem d21_0 : Dc c42 0 (.aload_n 0) 1 := by decide +kernel
theorem d21_1 : Dc c42 1 (.getfield 15) 3 := by decide +kernel
theorem d21_4 : Dc c42 4 (.arraylength) 1 := by decide +kernel
theorem d21_5 : Dc c42 5 (.istore_n 2) 1 := by decide +kernel
theorem d21_6 : Dc c42 6 (.iload_n 1) 1 := by decide +kernel
theorem d21_7 : Dc c42 7 (.aload_n 0) 1 := by decide +kernel
theorem d21_8 : Dc c42 8 (.getfield 22) 3 := by decide +kernel
theorem d21_11 : Dc c42 11 (.ishl) 1 := by decide +kernel
theorem d21_12 : Dc c42 12 (.istore_n 3) 1 := by decide +kernel
theorem d21_13 : Dc c42 13 (.iload_n 3) 1 := by decide +kernel
theorem d21_14 : Dc c42 14 (.iload_n 2) 1 := by decide +kernel
theorem d21_15 : Dc c42 15 (.isub) 1 := by decide +kernel
theorem d21_16 : Dc c42 16 (.istore 4) 2 := by decide +kernel
theorem d21_18 : Dc c42 18 (.iload_n 2) 1 := by decide +kernel
theorem d21_19 : Dc c42 19 (.iload 4) 2 := by decide +kernel
theorem d21_21 : Dc c42 21 (.iload_n 2) 1 := by decide +kernel
theorem d21_22 : Dc c42 22 (.iconst 2) 1 := by decide +kernel
theorem d21_23 : Dc c42 23 (.aload_n 0) 1 := by decide +kernel
theorem d21_24 : Dc c42 24 (.getfield 22) 3 := by decide +kernel
theorem d21_27 : Dc c42 27 (.ishl) 1 := by decide +kernel
theorem d21_28 : Dc c42 28 (.iadd) 1 := by decide +kernel
theorem pd23_ : parseMethodDescriptor "(III)I" = some ⟨[.int, .int, .int], some .int⟩ := by decide +kernel
theorem d21_29 : Dc c42 29 (.invokestatic 114) 3 := by decide +kernel
theorem d21_32 : Dc c42 32 (.istore 5) 2 := by decide +kernel
theorem d21_34 : Dc c42 34 (.iload 5) 2 := by decide +kernel
theorem d21_36 : Dc c42 36 (.ldc 39) 2 := by decide +kernel
theorem d21_38 : Dc c42 38 (.if_icmp .ne 13) 3 := by decide +kernel
theorem d21_51 : Dc c42 51 (.iload 5) 2 := by decide +kernel
theorem d21_53 : Dc c42 53 (.aload_n 0) 1 := by decide +kernel
theorem d21_54 : Dc c42 54 (.getfield 22) 3 := by decide +kernel
theorem d21_57 : Dc c42 57 (.ishr) 1 := by decide +kernel
theorem d21_58 : Dc c42 58 (.ireturn) 1 := by decide +kernel
def Q_rm_ncap (Z : State) (b : Addr) (v_ : Addr) (kv : ClassId) (h0 : Heap) (n0 : Nat) (v : Option Value) (h : Heap) (L : List Loc) : Prop := v = some (.int (34 : Int32)) ∧ Fr n0 L ∧ h = h0
theorem rm_ncap (l : Launch) (Z : State) (a0 : Array Value) (hw : Hw a0 Z) (ws : List Jvm.Cond) (b : Addr) (v_ : Addr) (kv : ClassId) (h0 : Heap) (n0 : Nat) (Z0 : n0 ≤ h0.size) (F_value_b : Fld Z h0 b "java/lang/AbstractStringBuilder" "value" "[B" (.ref v_)) (F_coder_b : Fld Z h0 b "java/lang/AbstractStringBuilder" "coder" "B" (.int (0 : Int32))) (V_v_ : Arv Z h0 v_ kv .byte (16 : Int32) (List.replicate 16 (Value.int (0 : Int32))) (.int (0 : Int32))) :
    MF l y38_ jdk_68_method_10_code 6 (some .int) ws (rM 2 0 0 29) #[(.ref b), (.int (17 : Int32))] Z h0 (Q_rm_ncap Z b v_ kv h0 n0) := by
  refine own_bodyF n0 (plainFor_of_name pnj_21) (fun m => efj_rm_ncap m b) ?_
  intro p e s m below meth c s₁ S0 hx hby hml hZ hown hnm hret hlk X0 e0 hh N0 hK go0
  have go1 : Go p e below s₁ (mkF m 1 #[.val (.ref b), .val (.int (17 : Int32)), .unset, .unset, .unset, .unset] [(.ref b)]) S0 := by
    intro tt kt
    refine go0 tt ?_
    refine XS.aloadN X0.here hx rfl (hb hby d21_0) rfl rfl ?_
    exact kt
  obtain ⟨T2, X2, e2, st2⟩ := getF X0 hx hZ hown (host := "") (Or.inl (wi hw 78 rfl)) Via.refl e0 F_value_b (g := (mkF m 1 #[.val (.ref b), .val (.int (17 : Int32)), .unset, .unset, .unset, .unset] [(.ref b)])) rfl rfl (hb hby d21_1)
  have go3 : Go p e below T2 (mkF m 4 #[.val (.ref b), .val (.int (17 : Int32)), .unset, .unset, .unset, .unset] [(.ref v_)]) S0 := fun t kt => go1 t (st2 _ kt)
  obtain ⟨cl4, Ar4, q4, S4, N4, H4, G4⟩ := id V_v_
  have go5 : Go p e below T2 (mkF m 8 #[.val (.ref b), .val (.int (17 : Int32)), .val (.int (16 : Int32)), .unset, .unset, .unset] [(.ref b), (.int (17 : Int32))]) S0 := by
    intro tt kt
    refine go3 tt ?_
    refine X2.arraylength hx (by rw [e2]; exact Ar4.1) (State.isArrayOf_alike hZ.alike Ar4.2.1) (g := (mkF m 4 #[.val (.ref b), .val (.int (17 : Int32)), .unset, .unset, .unset, .unset] [(.ref v_)])) rfl rfl (hb hby d21_4) _ ?_
    rw [len_of S4 N4]
    refine XS.istoreN X2.here hx rfl (hb hby d21_5) rfl (l' := #[.val (.ref b), .val (.int (17 : Int32)), .val (.int (16 : Int32)), .unset, .unset, .unset]) rfl ?_
    refine XS.iloadN X2.here hx rfl (hb hby d21_6) rfl ?_
    refine XS.aloadN X2.here hx rfl (hb hby d21_7) rfl rfl ?_
    exact kt
  obtain ⟨T6, X6, e6, st6⟩ := getF X2 hx hZ hown (host := "") (Or.inl (wi hw 80 rfl)) Via.refl e2 F_coder_b (g := (mkF m 8 #[.val (.ref b), .val (.int (17 : Int32)), .val (.int (16 : Int32)), .unset, .unset, .unset] [(.ref b), (.int (17 : Int32))])) rfl rfl (hb hby d21_8)
  have go7 : Go p e below T6 (mkF m 11 #[.val (.ref b), .val (.int (17 : Int32)), .val (.int (16 : Int32)), .unset, .unset, .unset] [(.int (0 : Int32)), (.int (17 : Int32))]) S0 := fun t kt => go5 t (st6 _ kt)
  have go8 : Go p e below T6 (mkF m 12 #[.val (.ref b), .val (.int (17 : Int32)), .val (.int (16 : Int32)), .unset, .unset, .unset] [(.int ((17 : Int32) <<< ((0 : Int32) &&& 31)))]) S0 := by
    intro tt kt
    refine go7 tt ?_
    refine XS.ishl X6.here hx rfl (hb hby d21_11) rfl ?_
    exact kt
  have cv9 : ((17 : Int32) <<< ((0 : Int32) &&& 31)) = (17 : Int32) := (by decide)
  have go9 : Go p e below T6 (mkF m 12 #[.val (.ref b), .val (.int (17 : Int32)), .val (.int (16 : Int32)), .unset, .unset, .unset] [(.int (17 : Int32))]) S0 := by have q := go8; rw [cv9] at q; exact q
  have go10 : Go p e below T6 (mkF m 16 #[.val (.ref b), .val (.int (17 : Int32)), .val (.int (16 : Int32)), .val (.int (17 : Int32)), .unset, .unset] [(.int ((17 : Int32) - (16 : Int32)))]) S0 := by
    intro tt kt
    refine go9 tt ?_
    refine XS.istoreN X6.here hx rfl (hb hby d21_12) rfl (l' := #[.val (.ref b), .val (.int (17 : Int32)), .val (.int (16 : Int32)), .val (.int (17 : Int32)), .unset, .unset]) rfl ?_
    refine XS.iloadN X6.here hx rfl (hb hby d21_13) rfl ?_
    refine XS.iloadN X6.here hx rfl (hb hby d21_14) rfl ?_
    refine XS.isub X6.here hx rfl (hb hby d21_15) rfl ?_
    exact kt
  have cv11 : ((17 : Int32) - (16 : Int32)) = (1 : Int32) := (by decide)
  have go11 : Go p e below T6 (mkF m 16 #[.val (.ref b), .val (.int (17 : Int32)), .val (.int (16 : Int32)), .val (.int (17 : Int32)), .unset, .unset] [(.int (1 : Int32))]) S0 := by have q := go10; rw [cv11] at q; exact q
  have go12 : Go p e below T6 (mkF m 24 #[.val (.ref b), .val (.int (17 : Int32)), .val (.int (16 : Int32)), .val (.int (17 : Int32)), .val (.int (1 : Int32)), .unset] [(.ref b), (.int (2 : Int32)), (.int (16 : Int32)), (.int (1 : Int32)), (.int (16 : Int32))]) S0 := by
    intro tt kt
    refine go11 tt ?_
    refine XS.istore X6.here hx rfl (hb hby d21_16) rfl (l' := #[.val (.ref b), .val (.int (17 : Int32)), .val (.int (16 : Int32)), .val (.int (17 : Int32)), .val (.int (1 : Int32)), .unset]) rfl ?_
    refine XS.iloadN X6.here hx rfl (hb hby d21_18) rfl ?_
    refine XS.iload X6.here hx rfl (hb hby d21_19) rfl ?_
    refine XS.iloadN X6.here hx rfl (hb hby d21_21) rfl ?_
    refine XS.iconst X6.here hx rfl (hb hby d21_22) ?_
    refine XS.aloadN X6.here hx rfl (hb hby d21_23) rfl rfl ?_
    exact kt
  obtain ⟨T13, X13, e13, st13⟩ := getF X6 hx hZ hown (host := "") (Or.inl (wi hw 80 rfl)) Via.refl e6 F_coder_b (g := (mkF m 24 #[.val (.ref b), .val (.int (17 : Int32)), .val (.int (16 : Int32)), .val (.int (17 : Int32)), .val (.int (1 : Int32)), .unset] [(.ref b), (.int (2 : Int32)), (.int (16 : Int32)), (.int (1 : Int32)), (.int (16 : Int32))])) rfl rfl (hb hby d21_24)
  have go14 : Go p e below T13 (mkF m 27 #[.val (.ref b), .val (.int (17 : Int32)), .val (.int (16 : Int32)), .val (.int (17 : Int32)), .val (.int (1 : Int32)), .unset] [(.int (0 : Int32)), (.int (2 : Int32)), (.int (16 : Int32)), (.int (1 : Int32)), (.int (16 : Int32))]) S0 := fun t kt => go12 t (st13 _ kt)
  have go15 : Go p e below T13 (mkF m 28 #[.val (.ref b), .val (.int (17 : Int32)), .val (.int (16 : Int32)), .val (.int (17 : Int32)), .val (.int (1 : Int32)), .unset] [(.int ((2 : Int32) <<< ((0 : Int32) &&& 31))), (.int (16 : Int32)), (.int (1 : Int32)), (.int (16 : Int32))]) S0 := by
    intro tt kt
    refine go14 tt ?_
    refine XS.ishl X13.here hx rfl (hb hby d21_27) rfl ?_
    exact kt
  have cv16 : ((2 : Int32) <<< ((0 : Int32) &&& 31)) = (2 : Int32) := (by decide)
  have go16 : Go p e below T13 (mkF m 28 #[.val (.ref b), .val (.int (17 : Int32)), .val (.int (16 : Int32)), .val (.int (17 : Int32)), .val (.int (1 : Int32)), .unset] [(.int (2 : Int32)), (.int (16 : Int32)), (.int (1 : Int32)), (.int (16 : Int32))]) S0 := by have q := go15; rw [cv16] at q; exact q
  have go17 : Go p e below T13 (mkF m 29 #[.val (.ref b), .val (.int (17 : Int32)), .val (.int (16 : Int32)), .val (.int (17 : Int32)), .val (.int (1 : Int32)), .unset] [(.int (18 : Int32)), (.int (1 : Int32)), (.int (16 : Int32))]) S0 := by
    intro tt kt
    refine go16 tt ?_
    refine XS.iadd X13.here hx rfl (hb hby d21_28) rfl ?_
    exact kt
  obtain ⟨_, _, ⟨T18, L18, k18, n18⟩, -, X18, ⟨Lc18, hQ18, l18, y18, z18⟩, st18⟩ := Jvm.LawKit.callS X13 hx (y := y43_) hown (mvT hZ (wi hw 115 rfl)) (mvT hZ (wi hw 116 rfl)) (mvT hZ (wi hw 117 rfl)) (mvT hZ (wi hw 118 rfl)) (by decide) (backOf (W := 0) (rm_newLen l Z a0 hw []  h0 n0 Z0) hZ (wi hw 118 rfl) (wi hw 117 rfl) (by decide) (by decide)) (g := (mkF m 29 #[.val (.ref b), .val (.int (17 : Int32)), .val (.int (16 : Int32)), .val (.int (17 : Int32)), .val (.int (1 : Int32)), .unset] [(.int (18 : Int32)), (.int (1 : Int32)), (.int (16 : Int32))])) rfl (by rw [hml]; rfl) (argsL := [(.int (16 : Int32)), (.int (1 : Int32)), (.int (18 : Int32))]) (rest := []) (lenOf pd23_ rfl) rfl (by show 2 * 0 + _ ≤ _; exact Nat.le_of_eq rfl) (hb hby d21_29) (fun _ _ => ⟨rfl, e13, (by decide : 0 + 0 ≤ _), (by decide : 0 + 0 ≤ _)⟩)
  dsimp only [Pt.U, Pt.locs, Pt.cells, Pt.slots] at X18 l18 y18 z18 st18 hQ18
  subst l18 y18 z18
  obtain ⟨rfl, N18q, g18⟩ := hQ18
  rw [← g18] at F_value_b F_coder_b V_v_ Z0
  have N18 := Fr.app N0 N18q
  have go19 : Go p e below T18 (mkF m 32 #[.val (.ref b), .val (.int (17 : Int32)), .val (.int (16 : Int32)), .val (.int (17 : Int32)), .val (.int (1 : Int32)), .unset] [(.int (34 : Int32))]) S0 := fun t kt => go17 t (st18 _ kt)
  have go20 : Go p e below T18 (mkF m 54 #[.val (.ref b), .val (.int (17 : Int32)), .val (.int (16 : Int32)), .val (.int (17 : Int32)), .val (.int (1 : Int32)), .val (.int (34 : Int32))] [(.ref b), (.int (34 : Int32))]) S0 := by
    intro tt kt
    refine go19 tt ?_
    refine XS.istore X18.here hx rfl (hb hby d21_32) rfl (l' := #[.val (.ref b), .val (.int (17 : Int32)), .val (.int (16 : Int32)), .val (.int (17 : Int32)), .val (.int (1 : Int32)), .val (.int (34 : Int32))]) rfl ?_
    refine XS.iload X18.here hx rfl (hb hby d21_34) rfl ?_
    refine X18.ldcInt hx hown (mvT hZ (wi hw 124 rfl)) (g := (mkF m 36 #[.val (.ref b), .val (.int (17 : Int32)), .val (.int (16 : Int32)), .val (.int (17 : Int32)), .val (.int (1 : Int32)), .val (.int (34 : Int32))] [(.int (34 : Int32))])) rfl (hb hby d21_36) _ ?_
    refine XS.icmpYes X18.here hx rfl (pc0 := 38) (pc' := 51) rfl (hb hby d21_38) rfl (feq (by decide)).2 (by decide) (by decide) ?_
    refine XS.iload X18.here hx rfl (hb hby d21_51) rfl ?_
    refine XS.aloadN X18.here hx rfl (hb hby d21_53) rfl rfl ?_
    exact kt
  obtain ⟨T21, X21, e21, st21⟩ := getF X18 hx hZ hown (host := "") (Or.inl (wi hw 80 rfl)) Via.refl rfl F_coder_b (g := (mkF m 54 #[.val (.ref b), .val (.int (17 : Int32)), .val (.int (16 : Int32)), .val (.int (17 : Int32)), .val (.int (1 : Int32)), .val (.int (34 : Int32))] [(.ref b), (.int (34 : Int32))])) rfl rfl (hb hby d21_54)
  have go22 : Go p e below T21 (mkF m 57 #[.val (.ref b), .val (.int (17 : Int32)), .val (.int (16 : Int32)), .val (.int (17 : Int32)), .val (.int (1 : Int32)), .val (.int (34 : Int32))] [(.int (0 : Int32)), (.int (34 : Int32))]) S0 := fun t kt => go20 t (st21 _ kt)
  have go23 : Go p e below T21 (mkF m 58 #[.val (.ref b), .val (.int (17 : Int32)), .val (.int (16 : Int32)), .val (.int (17 : Int32)), .val (.int (1 : Int32)), .val (.int (34 : Int32))] [(.int ((34 : Int32) >>> ((0 : Int32) &&& 31)))]) S0 := by
    intro tt kt
    refine go22 tt ?_
    refine XS.ishr X21.here hx rfl (hb hby d21_57) rfl ?_
    exact kt
  have cv24 : ((34 : Int32) >>> ((0 : Int32) &&& 31)) = (34 : Int32) := (by decide)
  have go24 : Go p e below T21 (mkF m 58 #[.val (.ref b), .val (.int (17 : Int32)), .val (.int (16 : Int32)), .val (.int (17 : Int32)), .val (.int (1 : Int32)), .val (.int (34 : Int32))] [(.int (34 : Int32))]) S0 := by have q := go23; rw [cv24] at q; exact q
  exact own_leaveI X21 hx hret hlk (hb hby d21_58) go24 e21 (⟨rfl, N18, g18⟩) (by decide) (by decide)
theorem pnj_22 : plainName "java/lang/AbstractStringBuilder" = true := by first | (simp [plainName, overriddenIn]; done) | decide +kernel
theorem efj_rm_ens1 (m : MethodId) (b : Addr) : entryFrame m #[(.ref b), (.int (17 : Int32))] 3 = mkF m 0 #[.val (.ref b), .val (.int (17 : Int32)), .unset] [] := by first | (simp [entryFrame, mkF, argsToLocals, Value.category]; done) | rfl
theorem d22_0 : Dc c52 0 (.aload_n 0) 1 := by decide +kernel
theorem d22_1 : Dc c52 1 (.getfield 15) 3 := by decide +kernel
theorem d22_4 : Dc c52 4 (.arraylength) 1 := by decide +kernel
theorem d22_5 : Dc c52 5 (.aload_n 0) 1 := by decide +kernel
theorem d22_6 : Dc c52 6 (.getfield 22) 3 := by decide +kernel
theorem d22_9 : Dc c52 9 (.ishr) 1 := by decide +kernel
theorem d22_10 : Dc c52 10 (.istore_n 2) 1 := by decide +kernel
theorem d22_11 : Dc c52 11 (.iload_n 1) 1 := by decide +kernel
theorem d22_12 : Dc c52 12 (.iload_n 2) 1 := by decide +kernel
theorem d22_13 : Dc c52 13 (.isub) 1 := by decide +kernel
theorem d22_14 : Dc c52 14 (.ifCond .le 24) 3 := by decide +kernel
theorem d22_17 : Dc c52 17 (.aload_n 0) 1 := by decide +kernel
theorem d22_18 : Dc c52 18 (.aload_n 0) 1 := by decide +kernel
theorem d22_19 : Dc c52 19 (.getfield 15) 3 := by decide +kernel
theorem d22_22 : Dc c52 22 (.aload_n 0) 1 := by decide +kernel
theorem d22_23 : Dc c52 23 (.iload_n 1) 1 := by decide +kernel
theorem d22_24 : Dc c52 24 (.invokevirtual 104) 3 := by decide +kernel
theorem d22_27 : Dc c52 27 (.aload_n 0) 1 := by decide +kernel
theorem d22_28 : Dc c52 28 (.getfield 22) 3 := by decide +kernel
theorem d22_31 : Dc c52 31 (.ishl) 1 := by decide +kernel
theorem pd19_ : parseMethodDescriptor "([BI)[B" = some ⟨[(.array .byte), .int], some (.array .byte)⟩ := by decide +kernel
theorem d22_32 : Dc c52 32 (.invokestatic 108) 3 := by decide +kernel
theorem d22_35 : Dc c52 35 (.putfield 15) 3 := by decide +kernel
theorem d22_38 : Dc c52 38 (.return_) 1 := by decide +kernel
def Q_rm_ens1 (Z : State) (b : Addr) (v_ : Addr) (kv : ClassId) (h0 : Heap) (n0 : Nat) (v : Option Value) (h : Heap) (L : List Loc) : Prop := ∃ (u : Addr) (k : ClassId), v = none ∧ Fr n0 L ∧ Keep h0 h [b] ∧ Exa Z h b "java/lang/StringBuilder" ∧ Fld Z h b "java/lang/AbstractStringBuilder" "value" "[B" (.ref u) ∧ Fld Z h b "java/lang/AbstractStringBuilder" "coder" "B" (.int (0 : Int32)) ∧ Fld Z h b "java/lang/AbstractStringBuilder" "count" "I" (.int (0 : Int32)) ∧ Fld Z h b "java/lang/AbstractStringBuilder" "maybeLatin1" "Z" (.int (0 : Int32)) ∧ Arv Z h u k .byte (34 : Int32) (List.replicate 34 (Value.int (0 : Int32))) (.int (0 : Int32)) ∧ h0.size ≤ u
theorem rm_ens1 (l : Launch) (Z : State) (a0 : Array Value) (hw : Hw a0 Z) (ws : List Jvm.Cond) (b : Addr) (v_ : Addr) (kv : ClassId) (h0 : Heap) (n0 : Nat) (Z0 : n0 ≤ h0.size) (E_b : Exa Z h0 b "java/lang/StringBuilder") (F_value_b : Fld Z h0 b "java/lang/AbstractStringBuilder" "value" "[B" (.ref v_)) (F_coder_b : Fld Z h0 b "java/lang/AbstractStringBuilder" "coder" "B" (.int (0 : Int32))) (F_count_b : Fld Z h0 b "java/lang/AbstractStringBuilder" "count" "I" (.int (0 : Int32))) (F_maybeLatin1_b : Fld Z h0 b "java/lang/AbstractStringBuilder" "maybeLatin1" "Z" (.int (0 : Int32))) (g_b : n0 ≤ b) (V_v_ : Arv Z h0 v_ kv .byte (16 : Int32) (List.replicate 16 (Value.int (0 : Int32))) (.int (0 : Int32))) :
    MF l y7_ jdk_68_method_9_code 3 none ws (rM 3 1 34 48) #[(.ref b), (.int (17 : Int32))] Z h0 (Q_rm_ens1 Z b v_ kv h0 n0) := by
  refine own_bodyF n0 (plainFor_of_name pnj_22) (fun m => efj_rm_ens1 m b) ?_
  intro p e s m below meth c s₁ S0 hx hby hml hZ hown hnm hret hlk X0 e0 hh N0 hK go0
  have K0 : Keep h0 h0 [b] := Keep.refl h0 [b]
  have go1 : Go p e below s₁ (mkF m 1 #[.val (.ref b), .val (.int (17 : Int32)), .unset] [(.ref b)]) S0 := by
    intro tt kt
    refine go0 tt ?_
    refine XS.aloadN X0.here hx rfl (hb hby d22_0) rfl rfl ?_
    exact kt
  obtain ⟨T2, X2, e2, st2⟩ := getF X0 hx hZ hown (host := "") (Or.inl (wi hw 78 rfl)) Via.refl e0 F_value_b (g := (mkF m 1 #[.val (.ref b), .val (.int (17 : Int32)), .unset] [(.ref b)])) rfl rfl (hb hby d22_1)
  have go3 : Go p e below T2 (mkF m 4 #[.val (.ref b), .val (.int (17 : Int32)), .unset] [(.ref v_)]) S0 := fun t kt => go1 t (st2 _ kt)
  obtain ⟨cl4, Ar4, q4, S4, N4, H4, G4⟩ := id V_v_
  have go5 : Go p e below T2 (mkF m 6 #[.val (.ref b), .val (.int (17 : Int32)), .unset] [(.ref b), (.int (16 : Int32))]) S0 := by
    intro tt kt
    refine go3 tt ?_
    refine X2.arraylength hx (by rw [e2]; exact Ar4.1) (State.isArrayOf_alike hZ.alike Ar4.2.1) (g := (mkF m 4 #[.val (.ref b), .val (.int (17 : Int32)), .unset] [(.ref v_)])) rfl rfl (hb hby d22_4) _ ?_
    rw [len_of S4 N4]
    refine XS.aloadN X2.here hx rfl (hb hby d22_5) rfl rfl ?_
    exact kt
  obtain ⟨T6, X6, e6, st6⟩ := getF X2 hx hZ hown (host := "") (Or.inl (wi hw 80 rfl)) Via.refl e2 F_coder_b (g := (mkF m 6 #[.val (.ref b), .val (.int (17 : Int32)), .unset] [(.ref b), (.int (16 : Int32))])) rfl rfl (hb hby d22_6)
  have go7 : Go p e below T6 (mkF m 9 #[.val (.ref b), .val (.int (17 : Int32)), .unset] [(.int (0 : Int32)), (.int (16 : Int32))]) S0 := fun t kt => go5 t (st6 _ kt)
  have go8 : Go p e below T6 (mkF m 10 #[.val (.ref b), .val (.int (17 : Int32)), .unset] [(.int ((16 : Int32) >>> ((0 : Int32) &&& 31)))]) S0 := by
    intro tt kt
    refine go7 tt ?_
    refine XS.ishr X6.here hx rfl (hb hby d22_9) rfl ?_
    exact kt
  have cv9 : ((16 : Int32) >>> ((0 : Int32) &&& 31)) = (16 : Int32) := (by decide)
  have go9 : Go p e below T6 (mkF m 10 #[.val (.ref b), .val (.int (17 : Int32)), .unset] [(.int (16 : Int32))]) S0 := by have q := go8; rw [cv9] at q; exact q
  have go10 : Go p e below T6 (mkF m 14 #[.val (.ref b), .val (.int (17 : Int32)), .val (.int (16 : Int32))] [(.int ((17 : Int32) - (16 : Int32)))]) S0 := by
    intro tt kt
    refine go9 tt ?_
    refine XS.istoreN X6.here hx rfl (hb hby d22_10) rfl (l' := #[.val (.ref b), .val (.int (17 : Int32)), .val (.int (16 : Int32))]) rfl ?_
    refine XS.iloadN X6.here hx rfl (hb hby d22_11) rfl ?_
    refine XS.iloadN X6.here hx rfl (hb hby d22_12) rfl ?_
    refine XS.isub X6.here hx rfl (hb hby d22_13) rfl ?_
    exact kt
  have cv11 : ((17 : Int32) - (16 : Int32)) = (1 : Int32) := (by decide)
  have go11 : Go p e below T6 (mkF m 14 #[.val (.ref b), .val (.int (17 : Int32)), .val (.int (16 : Int32))] [(.int (1 : Int32))]) S0 := by have q := go10; rw [cv11] at q; exact q
  have go12 : Go p e below T6 (mkF m 19 #[.val (.ref b), .val (.int (17 : Int32)), .val (.int (16 : Int32))] [(.ref b), (.ref b)]) S0 := by
    intro tt kt
    refine go11 tt ?_
    refine XS.ifNo X6.here hx rfl (hb hby d22_14) rfl ((if0 _ _).trans (tlt (by decide)).2.2.2) ?_
    refine XS.aloadN X6.here hx rfl (hb hby d22_17) rfl rfl ?_
    refine XS.aloadN X6.here hx rfl (hb hby d22_18) rfl rfl ?_
    exact kt
  obtain ⟨T13, X13, e13, st13⟩ := getF X6 hx hZ hown (host := "") (Or.inl (wi hw 78 rfl)) Via.refl e6 F_value_b (g := (mkF m 19 #[.val (.ref b), .val (.int (17 : Int32)), .val (.int (16 : Int32))] [(.ref b), (.ref b)])) rfl rfl (hb hby d22_19)
  have go14 : Go p e below T13 (mkF m 22 #[.val (.ref b), .val (.int (17 : Int32)), .val (.int (16 : Int32))] [(.ref v_), (.ref b)]) S0 := fun t kt => go12 t (st13 _ kt)
  have go15 : Go p e below T13 (mkF m 24 #[.val (.ref b), .val (.int (17 : Int32)), .val (.int (16 : Int32))] [(.int (17 : Int32)), (.ref b), (.ref v_), (.ref b)]) S0 := by
    intro tt kt
    refine go14 tt ?_
    refine XS.aloadN X13.here hx rfl (hb hby d22_22) rfl rfl ?_
    refine XS.iloadN X13.here hx rfl (hb hby d22_23) rfl ?_
    exact kt
  obtain ⟨xc16, xk16, xh16, -, -, xs16, -⟩ := id E_b
  obtain ⟨_, _, ⟨T16, L16, k16, n16⟩, -, X16, ⟨Lc16, hQ16, l16, y16, z16⟩, st16⟩ := X13.privateBack hx (y := y38_) hown (mvT hZ (wi hw 110 rfl)) (mvT hZ (wi hw 111 rfl)) (own_selP (args := #[]) (mvT hZ (wi hw 113 rfl)) (Cond.privateMethod_at (args := #[]) (mvT hZ (wi hw 112 rfl))) (mvT hZ (wi hw 111 rfl)) (by decide)) (Cond.privateMethod_at (args := #[]) (mvT hZ (wi hw 112 rfl))) (mvT hZ (wi hw 114 rfl)) (by decide) (backOf (W := 2) (rm_ncap l Z a0 hw [] b v_ kv h0 n0 Z0 F_value_b F_coder_b V_v_) hZ (wi hw 114 rfl) (wi hw 74 rfl) (by decide) (by decide)) (g := (mkF m 24 #[.val (.ref b), .val (.int (17 : Int32)), .val (.int (16 : Int32))] [(.int (17 : Int32)), (.ref b), (.ref v_), (.ref b)])) rfl (by rw [hml]; rfl) (Steps.refl _) (a := b) (by rw [e13]; exact xh16) (VmData.noStatics_of xs16) (argsL := [(.int (17 : Int32))]) (rest := [(.ref v_), (.ref b)]) (lenOf pd34_ rfl) rfl (by show 2 * 0 + _ ≤ _; exact Nat.le_of_eq rfl) (hb hby d22_24) (fun _ _ => ⟨rfl, e13, (by decide : 0 + 0 ≤ _), (by decide : 0 + 0 ≤ _)⟩)
  dsimp only [Pt.U, Pt.locs, Pt.cells, Pt.slots] at X16 l16 y16 z16 st16 hQ16
  subst l16 y16 z16
  obtain ⟨rfl, N16q, g16⟩ := hQ16
  have K0 := own_ks g16 K0
  rw [← g16] at E_b F_value_b F_coder_b F_count_b F_maybeLatin1_b V_v_ Z0
  have N16 := Fr.app N0 N16q
  have go17 : Go p e below T16 (mkF m 27 #[.val (.ref b), .val (.int (17 : Int32)), .val (.int (16 : Int32))] [(.int (34 : Int32)), (.ref v_), (.ref b)]) S0 := fun t kt => go15 t (st16.trans kt)
  have go18 : Go p e below T16 (mkF m 28 #[.val (.ref b), .val (.int (17 : Int32)), .val (.int (16 : Int32))] [(.ref b), (.int (34 : Int32)), (.ref v_), (.ref b)]) S0 := by
    intro tt kt
    refine go17 tt ?_
    refine XS.aloadN X16.here hx rfl (hb hby d22_27) rfl rfl ?_
    exact kt
  obtain ⟨T19, X19, e19, st19⟩ := getF X16 hx hZ hown (host := "") (Or.inl (wi hw 80 rfl)) Via.refl rfl F_coder_b (g := (mkF m 28 #[.val (.ref b), .val (.int (17 : Int32)), .val (.int (16 : Int32))] [(.ref b), (.int (34 : Int32)), (.ref v_), (.ref b)])) rfl rfl (hb hby d22_28)
  have go20 : Go p e below T19 (mkF m 31 #[.val (.ref b), .val (.int (17 : Int32)), .val (.int (16 : Int32))] [(.int (0 : Int32)), (.int (34 : Int32)), (.ref v_), (.ref b)]) S0 := fun t kt => go18 t (st19 _ kt)
  have go21 : Go p e below T19 (mkF m 32 #[.val (.ref b), .val (.int (17 : Int32)), .val (.int (16 : Int32))] [(.int ((34 : Int32) <<< ((0 : Int32) &&& 31))), (.ref v_), (.ref b)]) S0 := by
    intro tt kt
    refine go20 tt ?_
    refine XS.ishl X19.here hx rfl (hb hby d22_31) rfl ?_
    exact kt
  have cv22 : ((34 : Int32) <<< ((0 : Int32) &&& 31)) = (34 : Int32) := (by decide)
  have go22 : Go p e below T19 (mkF m 32 #[.val (.ref b), .val (.int (17 : Int32)), .val (.int (16 : Int32))] [(.int (34 : Int32)), (.ref v_), (.ref b)]) S0 := by have q := go21; rw [cv22] at q; exact q
  obtain ⟨_, _, ⟨T23, L23, k23, n23⟩, -, X23, ⟨Lc23, hQ23, l23, y23, z23⟩, st23⟩ := Jvm.LawKit.callS X19 hx (y := y55_) hown (mvT hZ (wi hw 125 rfl)) (mvT hZ (wi hw 126 rfl)) (mvT hZ (wi hw 127 rfl)) (mvT hZ (wi hw 128 rfl)) (by decide) (backOf (W := 1) (rm_copyOf l Z a0 hw [] v_ kv T16.heap n0 Z0 V_v_) hZ (wi hw 128 rfl) (wi hw 127 rfl) (by decide) (by decide)) (g := (mkF m 32 #[.val (.ref b), .val (.int (17 : Int32)), .val (.int (16 : Int32))] [(.int (34 : Int32)), (.ref v_), (.ref b)])) rfl (by rw [hml]; rfl) (argsL := [(.ref v_), (.int (34 : Int32))]) (rest := [(.ref b)]) (lenOf pd19_ rfl) rfl (by show 2 * 0 + _ ≤ _; exact Nat.le_of_eq rfl) (hb hby d22_32) (fun _ _ => ⟨rfl, e19, (by decide : 0 + 1 ≤ _), (by decide : 0 + 34 ≤ _)⟩)
  dsimp only [Pt.U, Pt.locs, Pt.cells, Pt.slots] at X23 l23 y23 z23 st23 hQ23
  subst l23 y23 z23
  obtain ⟨u, ku, rfl, N23q, E23, V_u, su⟩ := hQ23
  have ne_u_b : u ≠ b := oL E_b.lt su
  have su := Nat.le_trans K0.1 su
  have E_b := E_b.ext E23
  have F_value_b := F_value_b.ext E23
  have F_coder_b := F_coder_b.ext E23
  have F_count_b := F_count_b.ext E23
  have F_maybeLatin1_b := F_maybeLatin1_b.ext E23
  have Z0 := Nat.le_trans Z0 E23.1
  have K0 := K0.ext E23
  have N23 := Fr.app N16 N23q
  have go24 : Go p e below T23 (mkF m 35 #[.val (.ref b), .val (.int (17 : Int32)), .val (.int (16 : Int32))] [(.ref u), (.ref b)]) S0 := fun t kt => go22 t (st23 _ kt)
  obtain ⟨T25, h25, X25, e25, W25, st25⟩ := putF X23 hx hZ hown (host := "") (Or.inl (wi hw 78 rfl)) Via.refl rfl F_value_b E_b (Or.inl (wi hw 79 rfl)) (wi hw 65 rfl) (ty := (.array .byte)) (by decide) rfl rfl (g := (mkF m 35 #[.val (.ref b), .val (.int (17 : Int32)), .val (.int (16 : Int32))] [(.ref u), (.ref b)])) rfl rfl (hb hby d22_35)
  have E_b := E_b.wr W25
  have F_coder_b := F_coder_b.other W25 (Or.inr (slot_ne (Or.inl (wi hw 81 rfl)) (Or.inl (wi hw 79 rfl)) (by decide) (t := .byte) (t' := (.array .byte)) (by decide) (by decide)))
  have F_count_b := F_count_b.other W25 (Or.inr (slot_ne (Or.inl (wi hw 104 rfl)) (Or.inl (wi hw 79 rfl)) (by decide) (t := .int) (t' := (.array .byte)) (by decide) (by decide)))
  have F_maybeLatin1_b := F_maybeLatin1_b.other W25 (Or.inr (slot_ne (Or.inl (wi hw 322 rfl)) (Or.inl (wi hw 79 rfl)) (by decide) (t := .boolean) (t' := (.array .byte)) (by decide) (by decide)))
  have V_u := V_u.other W25 ne_u_b
  have F_value_b := F_value_b.same W25
  have Z0 := Nat.le_trans Z0 (Keep.of_wr W25).1
  have K0 := K0.wr W25 (Or.inl (List.mem_of_getElem? (i := 0) rfl))
  have N25r := Fr.snoc X25 N23 g_b
  have go26 : Go p e below T25 (mkF m 38 #[.val (.ref b), .val (.int (17 : Int32)), .val (.int (16 : Int32))] []) S0 := fun t kt => go24 t (st25 _ kt)
  exact own_leaveV X25 hx hret hlk (hb hby d22_38) go26 e25 (⟨u, ku, rfl, N25r, K0, E_b, F_value_b, F_coder_b, F_count_b, F_maybeLatin1_b, V_u, su⟩) (by decide) (by decide)
theorem efj_rm_ens0 (m : MethodId) (b : Addr) (p2 : Int32) : entryFrame m #[(.ref b), (.int p2)] 3 = mkF m 0 #[.val (.ref b), .val (.int p2), .unset] [] := by first | (simp [entryFrame, mkF, argsToLocals, Value.category]; done) | rfl
def Q_rm_ens0 (Z : State) (b : Addr) (p2 : Int32) (u : Addr) (ku : ClassId) (zu : Int32) (k : Int32) (us : List Value) (h0 : Heap) (n0 : Nat) (v : Option Value) (h : Heap) (L : List Loc) : Prop := v = none ∧ Fr n0 L ∧ h = h0
theorem rm_ens0 (l : Launch) (Z : State) (a0 : Array Value) (hw : Hw a0 Z) (ws : List Jvm.Cond) (b : Addr) (p2 : Int32) (u : Addr) (ku : ClassId) (zu : Int32) (k : Int32) (us : List Value) (h0 : Heap) (n0 : Nat) (Z0 : n0 ≤ h0.size) (F_value_b : Fld Z h0 b "java/lang/AbstractStringBuilder" "value" "[B" (.ref u)) (F_coder_b : Fld Z h0 b "java/lang/AbstractStringBuilder" "coder" "B" (.int k)) (V_u : Arv Z h0 u ku .byte zu us (.int (0 : Int32))) (hle : ¬ (0 : Int32) < (p2 - (zu >>> (k &&& 31)))) :
    MF l y7_ jdk_68_method_9_code 3 none ws (rM 0 0 0 0) #[(.ref b), (.int p2)] Z h0 (Q_rm_ens0 Z b p2 u ku zu k us h0 n0) := by
  refine own_bodyF n0 (plainFor_of_name pnj_22) (fun m => efj_rm_ens0 m b p2) ?_
  intro p e s m below meth c s₁ S0 hx hby hml hZ hown hnm hret hlk X0 e0 hh N0 hK go0
  have go1 : Go p e below s₁ (mkF m 1 #[.val (.ref b), .val (.int p2), .unset] [(.ref b)]) S0 := by
    intro tt kt
    refine go0 tt ?_
    refine XS.aloadN X0.here hx rfl (hb hby d22_0) rfl rfl ?_
    exact kt
  obtain ⟨T2, X2, e2, st2⟩ := getF X0 hx hZ hown (host := "") (Or.inl (wi hw 78 rfl)) Via.refl e0 F_value_b (g := (mkF m 1 #[.val (.ref b), .val (.int p2), .unset] [(.ref b)])) rfl rfl (hb hby d22_1)
  have go3 : Go p e below T2 (mkF m 4 #[.val (.ref b), .val (.int p2), .unset] [(.ref u)]) S0 := fun t kt => go1 t (st2 _ kt)
  obtain ⟨cl4, Ar4, q4, S4, N4, H4, G4⟩ := id V_u
  have go5 : Go p e below T2 (mkF m 6 #[.val (.ref b), .val (.int p2), .unset] [(.ref b), (.int zu)]) S0 := by
    intro tt kt
    refine go3 tt ?_
    refine X2.arraylength hx (by rw [e2]; exact Ar4.1) (State.isArrayOf_alike hZ.alike Ar4.2.1) (g := (mkF m 4 #[.val (.ref b), .val (.int p2), .unset] [(.ref u)])) rfl rfl (hb hby d22_4) _ ?_
    rw [len_of S4 N4]
    refine XS.aloadN X2.here hx rfl (hb hby d22_5) rfl rfl ?_
    exact kt
  obtain ⟨T6, X6, e6, st6⟩ := getF X2 hx hZ hown (host := "") (Or.inl (wi hw 80 rfl)) Via.refl e2 F_coder_b (g := (mkF m 6 #[.val (.ref b), .val (.int p2), .unset] [(.ref b), (.int zu)])) rfl rfl (hb hby d22_6)
  have go7 : Go p e below T6 (mkF m 9 #[.val (.ref b), .val (.int p2), .unset] [(.int k), (.int zu)]) S0 := fun t kt => go5 t (st6 _ kt)
  have go8 : Go p e below T6 (mkF m 38 #[.val (.ref b), .val (.int p2), .val (.int (zu >>> (k &&& 31)))] []) S0 := by
    intro tt kt
    refine go7 tt ?_
    refine XS.ishr X6.here hx rfl (hb hby d22_9) rfl ?_
    refine XS.istoreN X6.here hx rfl (hb hby d22_10) rfl (l' := #[.val (.ref b), .val (.int p2), .val (.int (zu >>> (k &&& 31)))]) rfl ?_
    refine XS.iloadN X6.here hx rfl (hb hby d22_11) rfl ?_
    refine XS.iloadN X6.here hx rfl (hb hby d22_12) rfl ?_
    refine XS.isub X6.here hx rfl (hb hby d22_13) rfl ?_
    refine XS.ifYes X6.here hx rfl (pc0 := 14) (pc' := 38) rfl (hb hby d22_14) rfl ((if0 _ _).trans (flt hle).2.2.2) (by decide) (by decide) ?_
    exact kt
  exact own_leaveV X6 hx hret hlk (hb hby d22_38) go8 e6 (⟨rfl, N0, rfl⟩) (by decide) (by decide)
theorem pnj_23 : plainName "java/lang/AbstractStringBuilder" = true := by first | (simp [plainName, overriddenIn]; done) | decide +kernel
theorem efj_rm_inn0 (m : MethodId) (b : Addr) (a2 : Addr) : entryFrame m #[(.ref b), (.ref a2)] 2 = mkF m 0 #[.val (.ref b), .val (.ref a2)] [] := by first | (simp [entryFrame, mkF, argsToLocals, Value.category]; done) | rfl
theorem d23_0 : Dc c50 0 (.getstatic 18) 3 := by decide +kernel
theorem d23_3 : Dc c50 3 (.ifCond .eq 18) 3 := by decide +kernel
theorem d23_6 : Dc c50 6 (.aload_n 0) 1 := by decide +kernel
theorem d23_7 : Dc c50 7 (.getfield 22) 3 := by decide +kernel
theorem d23_10 : Dc c50 10 (.aload_n 1) 1 := by decide +kernel
theorem d23_11 : Dc c50 11 (.invokevirtual 40) 3 := by decide +kernel
theorem d23_14 : Dc c50 14 (.if_icmp .eq 7) 3 := by decide +kernel
theorem d23_21 : Dc c50 21 (.return_) 1 := by decide +kernel
def Q_rm_inn0 (Z : State) (b : Addr) (a2 : Addr) (k : Int32) (zc : Int32) (h0 : Heap) (n0 : Nat) (v : Option Value) (h : Heap) (L : List Loc) : Prop := v = none ∧ Fr n0 L ∧ h = h0
theorem rm_inn0 (l : Launch) (Z : State) (a0 : Array Value) (hw : Hw a0 Z) (ws : List Jvm.Cond) (b : Addr) (a2 : Addr) (k : Int32) (zc : Int32) (h0 : Heap) (n0 : Nat) (Z0 : n0 ≤ h0.size) (O0 : Ext Z.heap h0) (hn0 : Z.heap.size ≤ n0) (S_CS : Sta Z Z.heap "java/lang/String" "COMPACT_STRINGS" "Z" (.int zc)) (P5 : ¬ zc = (0 : Int32)) (F_coder_b : Fld Z h0 b "java/lang/AbstractStringBuilder" "coder" "B" (.int k)) (E_a2 : Exa Z h0 a2 "java/lang/String") (C_a2 : Fld Z h0 a2 "java/lang/String" "coder" "B" (.int k)) (hk : nar .byte k = k) :
    MF l y22_ jdk_68_method_71_code 2 none ws (rM 1 0 0 13) #[(.ref b), (.ref a2)] Z h0 (Q_rm_inn0 Z b a2 k zc h0 n0) := by
  refine own_bodyF n0 (plainFor_of_name pnj_23) (fun m => efj_rm_inn0 m b a2) ?_
  intro p e s m below meth c s₁ S0 hx hby hml hZ hown hnm hret hlk X0 e0 hh N0 hK go0
  have S_N := S_CS.ext O0
  obtain ⟨T1, X1, e1, st1⟩ := getS2 X0 hx hZ hown (host := "") (Or.inl (wi hw 77 rfl)) Via.refl e0 S_N (g := (mkF m 0 #[.val (.ref b), .val (.ref a2)] [])) rfl (hb hby d23_0)
  have go2 : Go p e below T1 (mkF m 3 #[.val (.ref b), .val (.ref a2)] [(.int zc)]) S0 := fun t kt => go0 t (st1 _ kt)
  have go3 : Go p e below T1 (mkF m 7 #[.val (.ref b), .val (.ref a2)] [(.ref b)]) S0 := by
    intro tt kt
    refine go2 tt ?_
    refine XS.ifNo X1.here hx rfl (hb hby d23_3) rfl ((if0 _ _).trans (feq P5).1) ?_
    refine XS.aloadN X1.here hx rfl (hb hby d23_6) rfl rfl ?_
    exact kt
  obtain ⟨T4, X4, e4, st4⟩ := getF X1 hx hZ hown (host := "") (Or.inl (wi hw 80 rfl)) Via.refl e1 F_coder_b (g := (mkF m 7 #[.val (.ref b), .val (.ref a2)] [(.ref b)])) rfl rfl (hb hby d23_7)
  have go5 : Go p e below T4 (mkF m 10 #[.val (.ref b), .val (.ref a2)] [(.int k)]) S0 := fun t kt => go3 t (st4 _ kt)
  have go6 : Go p e below T4 (mkF m 11 #[.val (.ref b), .val (.ref a2)] [(.ref a2), (.int k)]) S0 := by
    intro tt kt
    refine go5 tt ?_
    refine XS.aloadN X4.here hx rfl (hb hby d23_10) rfl rfl ?_
    exact kt
  obtain ⟨cq7, kq7, q7a, q7b, q7c⟩ := isOf hZ e4 E_a2
  obtain ⟨_, _, ⟨T7, L7, k7, n7⟩, -, X7, ⟨Lc7, hQ7, l7, y7, z7⟩, st7⟩ := X4.virtualBack hx (y := y4_) (z := y4_) hown (mvT hZ (wi hw 146 rfl)) (mvT hZ (wi hw 99 rfl)) (notFace_of_selects (args := #[]) (mvT hZ (wi hw 101 rfl))) (mvT hZ (wi hw 101 rfl)) (mvT hZ (wi hw 100 rfl)) (by decide) (backOf (W := 1) (rm_coder l Z a0 hw [] a2 k zc h0 n0 Z0 O0 hn0 S_CS P5 C_a2 hk) hZ (wi hw 102 rfl) (wi hw 4 rfl) (by decide) (by decide)) q7a q7c (g := (mkF m 11 #[.val (.ref b), .val (.ref a2)] [(.ref a2), (.int k)])) rfl (by rw [hml]; rfl) (Steps.refl _) (argsL := []) (rest := [(.int k)]) (lenOf pd38_ rfl) rfl (by show 2 * 0 + _ ≤ _; exact Nat.le_of_eq rfl) (hb hby d23_11) (fun _ _ => ⟨rfl, e4, (by decide : 0 + 0 ≤ _), (by decide : 0 + 0 ≤ _)⟩)
  dsimp only [Pt.U, Pt.locs, Pt.cells, Pt.slots] at X7 l7 y7 z7 st7 hQ7
  subst l7 y7 z7
  obtain ⟨rfl, N7q, g7⟩ := hQ7
  rw [← g7] at O0
  rw [← g7] at F_coder_b E_a2 C_a2 Z0
  have N7 := Fr.app N0 N7q
  have go8 : Go p e below T7 (mkF m 14 #[.val (.ref b), .val (.ref a2)] [(.int k), (.int k)]) S0 := fun t kt => go6 t (st7.trans kt)
  have go9 : Go p e below T7 (mkF m 21 #[.val (.ref b), .val (.ref a2)] []) S0 := by
    intro tt kt
    refine go8 tt ?_
    refine XS.icmpYes X7.here hx rfl (pc0 := 14) (pc' := 21) rfl (hb hby d23_14) rfl (teq rfl).1 (by decide) (by decide) ?_
    exact kt
  exact own_leaveV X7 hx hret hlk (hb hby d23_21) go9 rfl (⟨rfl, N7, g7⟩) (by decide) (by decide)
theorem pnj_24 : plainName "java/lang/String" = true := by first | (simp [plainName, overriddenIn]; done) | decide +kernel
theorem efj_rm_getB (m : MethodId) (a1 : Addr) (d : Addr) (p3 : Int32) (k : Int32) : entryFrame m #[(.ref a1), (.ref d), (.int p3), (.int k)] 4 = mkF m 0 #[.val (.ref a1), .val (.ref d), .val (.int p3), .val (.int k)] [] := by first | (simp [entryFrame, mkF, argsToLocals, Value.category]; done) | rfl
theorem d24_0 : Dc c4 0 (.aload_n 0) 1 := by decide +kernel
theorem d24_1 : Dc c4 1 (.invokevirtual 335) 3 := by decide +kernel
theorem d24_4 : Dc c4 4 (.iload_n 3) 1 := by decide +kernel
theorem d24_5 : Dc c4 5 (.if_icmp .ne 23) 3 := by decide +kernel
theorem d24_8 : Dc c4 8 (.aload_n 0) 1 := by decide +kernel
theorem d24_9 : Dc c4 9 (.getfield 9) 3 := by decide +kernel
theorem d24_12 : Dc c4 12 (.iconst 0) 1 := by decide +kernel
theorem d24_13 : Dc c4 13 (.aload_n 1) 1 := by decide +kernel
theorem d24_14 : Dc c4 14 (.iload_n 2) 1 := by decide +kernel
theorem d24_15 : Dc c4 15 (.iload_n 3) 1 := by decide +kernel
theorem d24_16 : Dc c4 16 (.ishl) 1 := by decide +kernel
theorem d24_17 : Dc c4 17 (.aload_n 0) 1 := by decide +kernel
theorem d24_18 : Dc c4 18 (.getfield 9) 3 := by decide +kernel
theorem d24_21 : Dc c4 21 (.arraylength) 1 := by decide +kernel
theorem d24_22 : Dc c4 22 (.invokestatic 212) 3 := by decide +kernel
theorem d24_25 : Dc c4 25 (.goto 18) 3 := by decide +kernel
theorem d24_43 : Dc c4 43 (.return_) 1 := by decide +kernel
def Q_rm_getB (Z : State) (a1 : Addr) (d : Addr) (p3 : Int32) (k : Int32) (t : Addr) (kt : ClassId) (kd : ClassId) (ds : List Value) (vs : List Value) (i : Nat) (zc : Int32) (h0 : Heap) (n0 : Nat) (v : Option Value) (h : Heap) (L : List Loc) : Prop := v = none ∧ Fr n0 L ∧ Keep h0 h [d] ∧ Arv Z h d kd .byte (Int32.ofNat vs.length) (vs.take i ++ ds ++ vs.drop (i + ds.length)) (.int (0 : Int32))
theorem rm_getB (l : Launch) (Z : State) (a0 : Array Value) (hw : Hw a0 Z) (ws : List Jvm.Cond) (a1 : Addr) (d : Addr) (p3 : Int32) (k : Int32) (t : Addr) (kt : ClassId) (kd : ClassId) (ds : List Value) (vs : List Value) (i : Nat) (zc : Int32) (h0 : Heap) (n0 : Nat) (Z0 : n0 ≤ h0.size) (O0 : Ext Z.heap h0) (hn0 : Z.heap.size ≤ n0) (S_CS : Sta Z Z.heap "java/lang/String" "COMPACT_STRINGS" "Z" (.int zc)) (P5 : ¬ zc = (0 : Int32)) (E_a1 : Exa Z h0 a1 "java/lang/String") (C_a1 : Fld Z h0 a1 "java/lang/String" "coder" "B" (.int k)) (V_a1 : Fld Z h0 a1 "java/lang/String" "value" "[B" (.ref t)) (A_t : Arv Z h0 t kt .byte (Int32.ofNat ds.length) ds (.int (0 : Int32))) (hk : nar .byte k = k) (V_d : Arv Z h0 d kd .byte (Int32.ofNat vs.length) vs (.int (0 : Int32))) (ne_t_d : t ≠ d) (ne_a1_d : a1 ≠ d) (g_d : n0 ≤ d) (hidx : (p3 <<< (k &&& 31)) = Int32.ofNat i) (hfit : i + ds.length ≤ vs.length) (hl : vs.length < 1000) :
    MF l y11_ jdk_42_method_147_code 4 none ws (rM 1 0 0 18) #[(.ref a1), (.ref d), (.int p3), (.int k)] Z h0 (Q_rm_getB Z a1 d p3 k t kt kd ds vs i zc h0 n0) := by
  refine own_bodyF n0 (plainFor_of_name pnj_24) (fun m => efj_rm_getB m a1 d p3 k) ?_
  intro p e s m below meth c s₁ S0 hx hby hml hZ hown hnm hret hlk X0 e0 hh N0 hK go0
  have K0 : Keep h0 h0 [d] := Keep.refl h0 [d]
  have c1 : (Int32.ofNat i).toNatClampNeg = i := oC (by omega)
  have c2 : (Int32.ofNat ds.length).toNatClampNeg = ds.length := oC (by omega)
  have c3 : (Int32.ofNat vs.length).toNatClampNeg = vs.length := oC (by omega)
  have go1 : Go p e below s₁ (mkF m 1 #[.val (.ref a1), .val (.ref d), .val (.int p3), .val (.int k)] [(.ref a1)]) S0 := by
    intro tt kt
    refine go0 tt ?_
    refine XS.aloadN X0.here hx rfl (hb hby d24_0) rfl rfl ?_
    exact kt
  obtain ⟨cq2, kq2, q2a, q2b, q2c⟩ := isOf hZ e0 E_a1
  obtain ⟨_, _, ⟨T2, L2, k2, n2⟩, -, X2, ⟨Lc2, hQ2, l2, y2, z2⟩, st2⟩ := X0.virtualBack hx (y := y4_) (z := y4_) hown (mvT hZ (wi hw 98 rfl)) (mvT hZ (wi hw 99 rfl)) (notFace_of_selects (args := #[]) (mvT hZ (wi hw 101 rfl))) (mvT hZ (wi hw 101 rfl)) (mvT hZ (wi hw 100 rfl)) (by decide) (backOf (W := 0) (rm_coder l Z a0 hw [] a1 k zc h0 n0 Z0 (oO O0 K0 hn0 (allS g_d all0)) hn0 S_CS P5 C_a1 hk) hZ (wi hw 102 rfl) (wi hw 4 rfl) (by decide) (by decide)) q2a q2c (g := (mkF m 1 #[.val (.ref a1), .val (.ref d), .val (.int p3), .val (.int k)] [(.ref a1)])) rfl (by rw [hml]; rfl) (Steps.refl _) (argsL := []) (rest := []) (lenOf pd38_ rfl) rfl (by show 2 * 0 + _ ≤ _; exact Nat.le_of_eq rfl) (hb hby d24_1) (fun _ _ => ⟨rfl, e0, (by decide : 0 + 0 ≤ _), (by decide : 0 + 0 ≤ _)⟩)
  dsimp only [Pt.U, Pt.locs, Pt.cells, Pt.slots] at X2 l2 y2 z2 st2 hQ2
  subst l2 y2 z2
  obtain ⟨rfl, N2q, g2⟩ := hQ2
  have K0 := own_ks g2 K0
  rw [← g2] at E_a1 C_a1 V_a1 A_t V_d Z0
  have N2 := Fr.app N0 N2q
  have go3 : Go p e below T2 (mkF m 4 #[.val (.ref a1), .val (.ref d), .val (.int p3), .val (.int k)] [(.int k)]) S0 := fun t kt => go1 t (st2.trans kt)
  have go4 : Go p e below T2 (mkF m 9 #[.val (.ref a1), .val (.ref d), .val (.int p3), .val (.int k)] [(.ref a1)]) S0 := by
    intro tt kt
    refine go3 tt ?_
    refine XS.iloadN X2.here hx rfl (hb hby d24_4) rfl ?_
    refine XS.icmpNo X2.here hx rfl (hb hby d24_5) rfl (teq rfl).2 ?_
    refine XS.aloadN X2.here hx rfl (hb hby d24_8) rfl rfl ?_
    exact kt
  obtain ⟨T5, X5, e5, st5⟩ := getF X2 hx hZ hown (host := "") (Or.inl (wi hw 21 rfl)) Via.refl rfl V_a1 (g := (mkF m 9 #[.val (.ref a1), .val (.ref d), .val (.int p3), .val (.int k)] [(.ref a1)])) rfl rfl (hb hby d24_9)
  have go6 : Go p e below T5 (mkF m 12 #[.val (.ref a1), .val (.ref d), .val (.int p3), .val (.int k)] [(.ref t)]) S0 := fun t kt => go4 t (st5 _ kt)
  have go7 : Go p e below T5 (mkF m 17 #[.val (.ref a1), .val (.ref d), .val (.int p3), .val (.int k)] [(.int (p3 <<< (k &&& 31))), (.ref d), (.int (0 : Int32)), (.ref t)]) S0 := by
    intro tt kt
    refine go6 tt ?_
    refine XS.iconst X5.here hx rfl (hb hby d24_12) ?_
    refine XS.aloadN X5.here hx rfl (hb hby d24_13) rfl rfl ?_
    refine XS.iloadN X5.here hx rfl (hb hby d24_14) rfl ?_
    refine XS.iloadN X5.here hx rfl (hb hby d24_15) rfl ?_
    refine XS.ishl X5.here hx rfl (hb hby d24_16) rfl ?_
    exact kt
  have cv8 : (p3 <<< (k &&& 31)) = (Int32.ofNat i) := hidx
  have go8 : Go p e below T5 (mkF m 17 #[.val (.ref a1), .val (.ref d), .val (.int p3), .val (.int k)] [(.int (Int32.ofNat i)), (.ref d), (.int (0 : Int32)), (.ref t)]) S0 := by have q := go7; rw [cv8] at q; exact q
  have go9 : Go p e below T5 (mkF m 18 #[.val (.ref a1), .val (.ref d), .val (.int p3), .val (.int k)] [(.ref a1), (.int (Int32.ofNat i)), (.ref d), (.int (0 : Int32)), (.ref t)]) S0 := by
    intro tt kt
    refine go8 tt ?_
    refine XS.aloadN X5.here hx rfl (hb hby d24_17) rfl rfl ?_
    exact kt
  obtain ⟨T10, X10, e10, st10⟩ := getF X5 hx hZ hown (host := "") (Or.inl (wi hw 21 rfl)) Via.refl e5 V_a1 (g := (mkF m 18 #[.val (.ref a1), .val (.ref d), .val (.int p3), .val (.int k)] [(.ref a1), (.int (Int32.ofNat i)), (.ref d), (.int (0 : Int32)), (.ref t)])) rfl rfl (hb hby d24_18)
  have go11 : Go p e below T10 (mkF m 21 #[.val (.ref a1), .val (.ref d), .val (.int p3), .val (.int k)] [(.ref t), (.int (Int32.ofNat i)), (.ref d), (.int (0 : Int32)), (.ref t)]) S0 := fun t kt => go9 t (st10 _ kt)
  obtain ⟨cl12, Ar12, q12, S12, N12, H12, G12⟩ := id A_t
  have go13 : Go p e below T10 (mkF m 22 #[.val (.ref a1), .val (.ref d), .val (.int p3), .val (.int k)] [(.int (Int32.ofNat ds.length)), (.int (Int32.ofNat i)), (.ref d), (.int (0 : Int32)), (.ref t)]) S0 := by
    intro tt kt
    refine go11 tt ?_
    refine X10.arraylength hx (by rw [e10]; exact Ar12.1) (State.isArrayOf_alike hZ.alike Ar12.2.1) (g := (mkF m 21 #[.val (.ref a1), .val (.ref d), .val (.int p3), .val (.int k)] [(.ref t), (.int (Int32.ofNat i)), (.ref d), (.int (0 : Int32)), (.ref t)])) rfl rfl (hb hby d24_21) _ ?_
    rw [len_of S12 N12]
    exact kt
  obtain ⟨T14, h14, L14, X14, e14, N14, K14, V14, st14⟩ := cpA X10 hx hZ hown (wi hw 152 rfl) (wi hw 135 rfl) (wi hw 133 rfl) (wi hw 134 rfl) e10 A_t V_d (Or.inl ⟨rfl, rfl⟩) (by decide) (oN (by omega)) (oN (by omega)) (by simp only [c1, c2, c3, own_c0] <;> omega) (by simp only [c1, c2, c3, own_c0] <;> omega) (us := ds) (by rw [c2, own_c0, ← own_rng ds _ ds.length (Nat.le_refl _), List.take_length]) (by simp only [c1, c2, c3, own_c0] <;> omega) N2 g_d (g := (mkF m 22 #[.val (.ref a1), .val (.ref d), .val (.int p3), .val (.int k)] [(.int (Int32.ofNat ds.length)), (.int (Int32.ofNat i)), (.ref d), (.int (0 : Int32)), (.ref t)])) rfl (by rw [hml]; rfl) rfl (hb hby d24_22) (by decide) (W := 0) (by show 2 * 0 + _ ≤ _; exact Nat.le_of_eq rfl) (by decide)
  have E_a1 := E_a1.keep K14
  have C_a1 := C_a1.keep K14 (ninS ne_a1_d nin0)
  have V_a1 := V_a1.keep K14 (ninS ne_a1_d nin0)
  have A_t := A_t.keep K14 (ninS ne_t_d nin0)
  have V_d : Arv Z h14 d kd .byte (Int32.ofNat vs.length) (vs.take i ++ ds ++ vs.drop (i + ds.length)) (.int (0 : Int32)) := oA V14 (by rw [c1, c2])
  have Z0 := Nat.le_trans Z0 K14.1
  have K0 := K0.trans K14 (allS (Or.inl (List.mem_of_getElem? (i := 0) rfl)) all0)
  have go15 : Go p e below T14 (mkF m 25 #[.val (.ref a1), .val (.ref d), .val (.int p3), .val (.int k)] []) S0 := fun t kt => go13 t (st14 _ kt)
  have go16 : Go p e below T14 (mkF m 43 #[.val (.ref a1), .val (.ref d), .val (.int p3), .val (.int k)] []) S0 := by
    intro tt kt
    refine go15 tt ?_
    refine XS.goto X14.here hx rfl (pc0 := 25) (pc' := 43) rfl (hb hby d24_25) (by decide) (by decide) ?_
    exact kt
  exact own_leaveV X14 hx hret hlk (hb hby d24_43) go16 e14 (⟨rfl, N14, K0, V_d⟩) (by decide) (by decide)
theorem pnj_25 : plainName "java/lang/AbstractStringBuilder" = true := by first | (simp [plainName, overriddenIn]; done) | decide +kernel
theorem efj_rm_put0 (m : MethodId) (b : Addr) (p2 : Int32) (a2 : Addr) : entryFrame m #[(.ref b), (.int p2), (.ref a2)] 3 = mkF m 0 #[.val (.ref b), .val (.int p2), .val (.ref a2)] [] := by first | (simp [entryFrame, mkF, argsToLocals, Value.category]; done) | rfl
theorem d25_0 : Dc c51 0 (.aload_n 0) 1 := by decide +kernel
theorem d25_1 : Dc c51 1 (.aload_n 2) 1 := by decide +kernel
theorem pd11_ : parseMethodDescriptor "(Ljava/lang/String;)V" = some ⟨[(.object "java/lang/String")], none⟩ := by decide +kernel
theorem d25_2 : Dc c51 2 (.invokevirtual 397) 3 := by decide +kernel
theorem d25_5 : Dc c51 5 (.aload_n 2) 1 := by decide +kernel
theorem d25_6 : Dc c51 6 (.aload_n 0) 1 := by decide +kernel
theorem d25_7 : Dc c51 7 (.getfield 15) 3 := by decide +kernel
theorem d25_10 : Dc c51 10 (.iload_n 1) 1 := by decide +kernel
theorem d25_11 : Dc c51 11 (.aload_n 0) 1 := by decide +kernel
theorem d25_12 : Dc c51 12 (.getfield 22) 3 := by decide +kernel
theorem pd21_ : parseMethodDescriptor "([BIB)V" = some ⟨[(.array .byte), .int, .byte], none⟩ := by decide +kernel
theorem d25_15 : Dc c51 15 (.invokevirtual 399) 3 := by decide +kernel
theorem d25_18 : Dc c51 18 (.return_) 1 := by decide +kernel
def Q_rm_put0 (Z : State) (b : Addr) (p2 : Int32) (a2 : Addr) (k : Int32) (t : Addr) (kt : ClassId) (u : Addr) (ku : ClassId) (ds : List Value) (vs : List Value) (i : Nat) (cc : Int32) (zc : Int32) (h0 : Heap) (n0 : Nat) (v : Option Value) (h : Heap) (L : List Loc) : Prop := v = none ∧ Fr n0 L ∧ Keep h0 h [u] ∧ Exa Z h b "java/lang/StringBuilder" ∧ Fld Z h b "java/lang/AbstractStringBuilder" "value" "[B" (.ref u) ∧ Fld Z h b "java/lang/AbstractStringBuilder" "coder" "B" (.int k) ∧ Fld Z h b "java/lang/AbstractStringBuilder" "count" "I" (.int cc) ∧ Fld Z h b "java/lang/AbstractStringBuilder" "maybeLatin1" "Z" (.int (0 : Int32)) ∧ Arv Z h u ku .byte (Int32.ofNat vs.length) (vs.take i ++ ds ++ vs.drop (i + ds.length)) (.int (0 : Int32))
theorem rm_put0 (l : Launch) (Z : State) (a0 : Array Value) (hw : Hw a0 Z) (ws : List Jvm.Cond) (b : Addr) (p2 : Int32) (a2 : Addr) (k : Int32) (t : Addr) (kt : ClassId) (u : Addr) (ku : ClassId) (ds : List Value) (vs : List Value) (i : Nat) (cc : Int32) (zc : Int32) (h0 : Heap) (n0 : Nat) (Z0 : n0 ≤ h0.size) (O0 : Ext Z.heap h0) (hn0 : Z.heap.size ≤ n0) (S_CS : Sta Z Z.heap "java/lang/String" "COMPACT_STRINGS" "Z" (.int zc)) (P5 : ¬ zc = (0 : Int32)) (E_b : Exa Z h0 b "java/lang/StringBuilder") (F_value_b : Fld Z h0 b "java/lang/AbstractStringBuilder" "value" "[B" (.ref u)) (F_coder_b : Fld Z h0 b "java/lang/AbstractStringBuilder" "coder" "B" (.int k)) (F_count_b : Fld Z h0 b "java/lang/AbstractStringBuilder" "count" "I" (.int cc)) (F_maybeLatin1_b : Fld Z h0 b "java/lang/AbstractStringBuilder" "maybeLatin1" "Z" (.int (0 : Int32))) (E_a2 : Exa Z h0 a2 "java/lang/String") (C_a2 : Fld Z h0 a2 "java/lang/String" "coder" "B" (.int k)) (V_a2 : Fld Z h0 a2 "java/lang/String" "value" "[B" (.ref t)) (A_t : Arv Z h0 t kt .byte (Int32.ofNat ds.length) ds (.int (0 : Int32))) (hk : nar .byte k = k) (V_u : Arv Z h0 u ku .byte (Int32.ofNat vs.length) vs (.int (0 : Int32))) (ne_t_u : t ≠ u) (ne_a2_u : a2 ≠ u) (ne_b_u : b ≠ u) (g_u : n0 ≤ u) (hidx : (p2 <<< (k &&& 31)) = Int32.ofNat i) (hfit : i + ds.length ≤ vs.length) (hl : vs.length < 1000) :
    MF l y9_ jdk_68_method_73_code 3 none ws (rM 2 0 0 33) #[(.ref b), (.int p2), (.ref a2)] Z h0 (Q_rm_put0 Z b p2 a2 k t kt u ku ds vs i cc zc h0 n0) := by
  refine own_bodyF n0 (plainFor_of_name pnj_25) (fun m => efj_rm_put0 m b p2 a2) ?_
  intro p e s m below meth c s₁ S0 hx hby hml hZ hown hnm hret hlk X0 e0 hh N0 hK go0
  have K0 : Keep h0 h0 [u] := Keep.refl h0 [u]
  have go1 : Go p e below s₁ (mkF m 2 #[.val (.ref b), .val (.int p2), .val (.ref a2)] [(.ref a2), (.ref b)]) S0 := by
    intro tt kt
    refine go0 tt ?_
    refine XS.aloadN X0.here hx rfl (hb hby d25_0) rfl rfl ?_
    refine XS.aloadN X0.here hx rfl (hb hby d25_1) rfl rfl ?_
    exact kt
  obtain ⟨xc2, xk2, xh2, -, -, xs2, -⟩ := id E_b
  obtain ⟨_, _, ⟨T2, L2, k2, n2⟩, -, X2, ⟨Lc2, hQ2, l2, y2, z2⟩, st2⟩ := X0.privateBack hx (y := y22_) hown (mvT hZ (wi hw 141 rfl)) (mvT hZ (wi hw 142 rfl)) (own_selP (args := #[]) (mvT hZ (wi hw 144 rfl)) (Cond.privateMethod_at (args := #[]) (mvT hZ (wi hw 143 rfl))) (mvT hZ (wi hw 142 rfl)) (by decide)) (Cond.privateMethod_at (args := #[]) (mvT hZ (wi hw 143 rfl))) (mvT hZ (wi hw 145 rfl)) (by decide) (backOf (W := 0) (rm_inn0 l Z a0 hw [] b a2 k zc h0 n0 Z0 (oO O0 K0 hn0 (allS g_u all0)) hn0 S_CS P5 F_coder_b E_a2 C_a2 hk) hZ (wi hw 145 rfl) (wi hw 74 rfl) (by decide) (by decide)) (g := (mkF m 2 #[.val (.ref b), .val (.int p2), .val (.ref a2)] [(.ref a2), (.ref b)])) rfl (by rw [hml]; rfl) (Steps.refl _) (a := b) (by rw [e0]; exact xh2) (VmData.noStatics_of xs2) (argsL := [(.ref a2)]) (rest := []) (lenOf pd11_ rfl) rfl (by show 2 * 0 + _ ≤ _; exact Nat.le_of_eq rfl) (hb hby d25_2) (fun _ _ => ⟨rfl, e0, (by decide : 0 + 0 ≤ _), (by decide : 0 + 0 ≤ _)⟩)
  dsimp only [Pt.U, Pt.locs, Pt.cells, Pt.slots] at X2 l2 y2 z2 st2 hQ2
  subst l2 y2 z2
  obtain ⟨rfl, N2q, g2⟩ := hQ2
  have K0 := own_ks g2 K0
  rw [← g2] at E_b F_value_b F_coder_b F_count_b F_maybeLatin1_b E_a2 C_a2 V_a2 A_t V_u Z0
  have N2 := Fr.app N0 N2q
  have go3 : Go p e below T2 (mkF m 5 #[.val (.ref b), .val (.int p2), .val (.ref a2)] []) S0 := fun t kt => go1 t (st2.trans kt)
  have go4 : Go p e below T2 (mkF m 7 #[.val (.ref b), .val (.int p2), .val (.ref a2)] [(.ref b), (.ref a2)]) S0 := by
    intro tt kt
    refine go3 tt ?_
    refine XS.aloadN X2.here hx rfl (hb hby d25_5) rfl rfl ?_
    refine XS.aloadN X2.here hx rfl (hb hby d25_6) rfl rfl ?_
    exact kt
  obtain ⟨T5, X5, e5, st5⟩ := getF X2 hx hZ hown (host := "") (Or.inl (wi hw 78 rfl)) Via.refl rfl F_value_b (g := (mkF m 7 #[.val (.ref b), .val (.int p2), .val (.ref a2)] [(.ref b), (.ref a2)])) rfl rfl (hb hby d25_7)
  have go6 : Go p e below T5 (mkF m 10 #[.val (.ref b), .val (.int p2), .val (.ref a2)] [(.ref u), (.ref a2)]) S0 := fun t kt => go4 t (st5 _ kt)
  have go7 : Go p e below T5 (mkF m 12 #[.val (.ref b), .val (.int p2), .val (.ref a2)] [(.ref b), (.int p2), (.ref u), (.ref a2)]) S0 := by
    intro tt kt
    refine go6 tt ?_
    refine XS.iloadN X5.here hx rfl (hb hby d25_10) rfl ?_
    refine XS.aloadN X5.here hx rfl (hb hby d25_11) rfl rfl ?_
    exact kt
  obtain ⟨T8, X8, e8, st8⟩ := getF X5 hx hZ hown (host := "") (Or.inl (wi hw 80 rfl)) Via.refl e5 F_coder_b (g := (mkF m 12 #[.val (.ref b), .val (.int p2), .val (.ref a2)] [(.ref b), (.int p2), (.ref u), (.ref a2)])) rfl rfl (hb hby d25_12)
  have go9 : Go p e below T8 (mkF m 15 #[.val (.ref b), .val (.int p2), .val (.ref a2)] [(.int k), (.int p2), (.ref u), (.ref a2)]) S0 := fun t kt => go7 t (st8 _ kt)
  obtain ⟨cq10, kq10, q10a, q10b, q10c⟩ := isOf hZ e8 E_a2
  obtain ⟨_, _, ⟨T10, L10, k10, n10⟩, -, X10, ⟨Lc10, hQ10, l10, y10, z10⟩, st10⟩ := X8.virtualBack hx (y := y11_) (z := y11_) hown (mvT hZ (wi hw 147 rfl)) (mvT hZ (wi hw 148 rfl)) (notFace_of_selects (args := #[]) (mvT hZ (wi hw 150 rfl))) (mvT hZ (wi hw 150 rfl)) (mvT hZ (wi hw 149 rfl)) (by decide) (backOf (W := 0) (rm_getB l Z a0 hw [] a2 u p2 k t kt ku ds vs i zc T2.heap n0 Z0 (oO O0 K0 hn0 (allS g_u all0)) hn0 S_CS P5 E_a2 C_a2 V_a2 A_t hk V_u ne_t_u ne_a2_u g_u hidx hfit hl) hZ (wi hw 151 rfl) (wi hw 4 rfl) (by decide) (by decide)) q10a q10c (g := (mkF m 15 #[.val (.ref b), .val (.int p2), .val (.ref a2)] [(.int k), (.int p2), (.ref u), (.ref a2)])) rfl (by rw [hml]; rfl) (Steps.refl _) (argsL := [(.ref u), (.int p2), (.int k)]) (rest := []) (lenOf pd21_ rfl) rfl (by show 2 * 0 + _ ≤ _; exact Nat.le_of_eq rfl) (hb hby d25_15) (fun _ _ => ⟨rfl, e8, (by decide : 0 + 0 ≤ _), (by decide : 0 + 0 ≤ _)⟩)
  dsimp only [Pt.U, Pt.locs, Pt.cells, Pt.slots] at X10 l10 y10 z10 st10 hQ10
  subst l10 y10 z10
  obtain ⟨rfl, N10q, K10, V10⟩ := hQ10
  have E_b := E_b.keep K10
  have F_value_b := F_value_b.keep K10 (ninS ne_b_u nin0)
  have F_coder_b := F_coder_b.keep K10 (ninS ne_b_u nin0)
  have F_count_b := F_count_b.keep K10 (ninS ne_b_u nin0)
  have F_maybeLatin1_b := F_maybeLatin1_b.keep K10 (ninS ne_b_u nin0)
  have K0 := K0.trans K10 (allS (Or.inl (List.mem_cons_self ..)) all0)
  have N10 := Fr.app N2 N10q
  have go11 : Go p e below T10 (mkF m 18 #[.val (.ref b), .val (.int p2), .val (.ref a2)] []) S0 := fun t kt => go9 t (st10.trans kt)
  exact own_leaveV X10 hx hret hlk (hb hby d25_18) go11 rfl (⟨rfl, N10, K0, E_b, F_value_b, F_coder_b, F_count_b, F_maybeLatin1_b, V10⟩) (by decide) (by decide)
theorem pnj_26 : plainName "java/lang/StringUTF16" = true := by first | (simp [plainName, overriddenIn]; done) | decide +kernel
theorem efj_rm_u16l (m : MethodId) (a1 : Addr) : entryFrame m #[(.ref a1)] 1 = mkF m 0 #[.val (.ref a1)] [] := by first | (simp [entryFrame, mkF, argsToLocals, Value.category]; done) | rfl
theorem d26_0 : Dc c28 0 (.aload_n 0) 1 := by decide +kernel
theorem d26_1 : Dc c28 1 (.arraylength) 1 := by decide +kernel
theorem d26_2 : Dc c28 2 (.iconst 1) 1 := by decide +kernel
theorem d26_3 : Dc c28 3 (.ishr) 1 := by decide +kernel
theorem d26_4 : Dc c28 4 (.ireturn) 1 := by decide +kernel
def Q_rm_u16l (Z : State) (a1 : Addr) (k1 : ClassId) (vs : List Value) (h0 : Heap) (n0 : Nat) (v : Option Value) (h : Heap) (L : List Loc) : Prop := v = some (.int (34 : Int32)) ∧ Fr n0 L ∧ h = h0
theorem rm_u16l (l : Launch) (Z : State) (a0 : Array Value) (hw : Hw a0 Z) (ws : List Jvm.Cond) (a1 : Addr) (k1 : ClassId) (vs : List Value) (h0 : Heap) (n0 : Nat) (Z0 : n0 ≤ h0.size) (V_a1 : Arv Z h0 a1 k1 .byte (Int32.ofNat 68) vs (.int (0 : Int32))) :
    MF l y42_ jdk_52_method_6_code 1 (some .int) ws (rM 0 0 0 0) #[(.ref a1)] Z h0 (Q_rm_u16l Z a1 k1 vs h0 n0) := by
  refine own_bodyF n0 (plainFor_of_name pnj_26) (fun m => efj_rm_u16l m a1) ?_
  intro p e s m below meth c s₁ S0 hx hby hml hZ hown hnm hret hlk X0 e0 hh N0 hK go0
  have go1 : Go p e below s₁ (mkF m 1 #[.val (.ref a1)] [(.ref a1)]) S0 := by
    intro tt kt
    refine go0 tt ?_
    refine XS.aloadN X0.here hx rfl (hb hby d26_0) rfl rfl ?_
    exact kt
  obtain ⟨cl2, Ar2, q2, S2, N2, H2, G2⟩ := id V_a1
  have go3 : Go p e below s₁ (mkF m 4 #[.val (.ref a1)] [(.int ((Int32.ofNat 68) >>> ((1 : Int32) &&& 31)))]) S0 := by
    intro tt kt
    refine go1 tt ?_
    refine X0.arraylength hx (by rw [e0]; exact Ar2.1) (State.isArrayOf_alike hZ.alike Ar2.2.1) (g := (mkF m 1 #[.val (.ref a1)] [(.ref a1)])) rfl rfl (hb hby d26_1) _ ?_
    rw [len_of S2 N2]
    refine XS.iconst X0.here hx rfl (hb hby d26_2) ?_
    refine XS.ishr X0.here hx rfl (hb hby d26_3) rfl ?_
    exact kt
  have cv4 : ((Int32.ofNat 68) >>> ((1 : Int32) &&& 31)) = (34 : Int32) := (by decide)
  have go4 : Go p e below s₁ (mkF m 4 #[.val (.ref a1)] [(.int (34 : Int32))]) S0 := by have q := go3; rw [cv4] at q; exact q
  exact own_leaveI X0 hx hret hlk (hb hby d26_4) go4 e0 (⟨rfl, N0, rfl⟩) (by decide) (by decide)
theorem pnj_27 : plainName "jdk/internal/util/Preconditions" = true := by first | (simp [plainName, overriddenIn]; done) | decide +kernel
theorem efj_rm_cfisR (m : MethodId) (fa : Addr) : entryFrame m #[(.int (0 : Int32)), (.int (17 : Int32)), (.int (34 : Int32)), (.ref fa)] 4 = mkF m 0 #[.val (.int (0 : Int32)), .val (.int (17 : Int32)), .val (.int (34 : Int32)), .val (.ref fa)] [] := by first | (simp [entryFrame, mkF, argsToLocals, Value.category]; done) | rfl
theorem d27_0 : Dc c3 0 (.iload_n 2) 1 := by decide +kernel
theorem d27_1 : Dc c3 1 (.iload_n 0) 1 := by decide +kernel
theorem d27_2 : Dc c3 2 (.ior) 1 := by decide +kernel
theorem d27_3 : Dc c3 3 (.iload_n 1) 1 := by decide +kernel
theorem d27_4 : Dc c3 4 (.ior) 1 := by decide +kernel
theorem d27_5 : Dc c3 5 (.ifCond .lt 10) 3 := by decide +kernel
theorem d27_8 : Dc c3 8 (.iload_n 1) 1 := by decide +kernel
theorem d27_9 : Dc c3 9 (.iload_n 2) 1 := by decide +kernel
theorem d27_10 : Dc c3 10 (.iload_n 0) 1 := by decide +kernel
theorem d27_11 : Dc c3 11 (.isub) 1 := by decide +kernel
theorem d27_12 : Dc c3 12 (.if_icmp .le 11) 3 := by decide +kernel
theorem d27_23 : Dc c3 23 (.iload_n 0) 1 := by decide +kernel
theorem d27_24 : Dc c3 24 (.ireturn) 1 := by decide +kernel
def Q_rm_cfisR (Z : State) (fa : Addr) (h0 : Heap) (n0 : Nat) (v : Option Value) (h : Heap) (L : List Loc) : Prop := v = some (.int (0 : Int32)) ∧ Fr n0 L ∧ h = h0
theorem rm_cfisR (l : Launch) (Z : State) (a0 : Array Value) (hw : Hw a0 Z) (ws : List Jvm.Cond) (fa : Addr) (h0 : Heap) (n0 : Nat) (Z0 : n0 ≤ h0.size) :
    MF l y23_ jdk_41_method_13_code 4 (some .int) ws (rM 0 0 0 0) #[(.int (0 : Int32)), (.int (17 : Int32)), (.int (34 : Int32)), (.ref fa)] Z h0 (Q_rm_cfisR Z fa h0 n0) := by
  refine own_bodyF n0 (plainFor_of_name pnj_27) (fun m => efj_rm_cfisR m fa) ?_
  intro p e s m below meth c s₁ S0 hx hby hml hZ hown hnm hret hlk X0 e0 hh N0 hK go0
  have go1 : Go p e below s₁ (mkF m 24 #[.val (.int (0 : Int32)), .val (.int (17 : Int32)), .val (.int (34 : Int32)), .val (.ref fa)] [(.int (0 : Int32))]) S0 := by
    intro tt kt
    refine go0 tt ?_
    refine XS.iloadN X0.here hx rfl (hb hby d27_0) rfl ?_
    refine XS.iloadN X0.here hx rfl (hb hby d27_1) rfl ?_
    refine XS.ior X0.here hx rfl (hb hby d27_2) rfl ?_
    refine XS.iloadN X0.here hx rfl (hb hby d27_3) rfl ?_
    refine XS.ior X0.here hx rfl (hb hby d27_4) rfl ?_
    refine XS.ifNo X0.here hx rfl (hb hby d27_5) rfl ((if0 _ _).trans (flt (by decide)).1) ?_
    refine XS.iloadN X0.here hx rfl (hb hby d27_8) rfl ?_
    refine XS.iloadN X0.here hx rfl (hb hby d27_9) rfl ?_
    refine XS.iloadN X0.here hx rfl (hb hby d27_10) rfl ?_
    refine XS.isub X0.here hx rfl (hb hby d27_11) rfl ?_
    refine XS.icmpYes X0.here hx rfl (pc0 := 12) (pc' := 23) rfl (hb hby d27_12) rfl (flt (by decide)).2.2.2 (by decide) (by decide) ?_
    refine XS.iloadN X0.here hx rfl (hb hby d27_23) rfl ?_
    exact kt
  exact own_leaveI X0 hx hret hlk (hb hby d27_24) go1 e0 (⟨rfl, N0, rfl⟩) (by decide) (by decide)
theorem efj_rm_cfisN (m : MethodId)  : entryFrame m #[(.int (0 : Int32)), (.int (17 : Int32)), (.int (34 : Int32)), .null] 4 = mkF m 0 #[.val (.int (0 : Int32)), .val (.int (17 : Int32)), .val (.int (34 : Int32)), .val .null] [] := by first | (simp [entryFrame, mkF, argsToLocals, Value.category]; done) | rfl
def Q_rm_cfisN (Z : State)  (h0 : Heap) (n0 : Nat) (v : Option Value) (h : Heap) (L : List Loc) : Prop := v = some (.int (0 : Int32)) ∧ Fr n0 L ∧ h = h0
theorem rm_cfisN (l : Launch) (Z : State) (a0 : Array Value) (hw : Hw a0 Z) (ws : List Jvm.Cond)  (h0 : Heap) (n0 : Nat) (Z0 : n0 ≤ h0.size) :
    MF l y23_ jdk_41_method_13_code 4 (some .int) ws (rM 0 0 0 0) #[(.int (0 : Int32)), (.int (17 : Int32)), (.int (34 : Int32)), .null] Z h0 (Q_rm_cfisN Z  h0 n0) := by
  refine own_bodyF n0 (plainFor_of_name pnj_27) (fun m => efj_rm_cfisN m ) ?_
  intro p e s m below meth c s₁ S0 hx hby hml hZ hown hnm hret hlk X0 e0 hh N0 hK go0
  have go1 : Go p e below s₁ (mkF m 24 #[.val (.int (0 : Int32)), .val (.int (17 : Int32)), .val (.int (34 : Int32)), .val .null] [(.int (0 : Int32))]) S0 := by
    intro tt kt
    refine go0 tt ?_
    refine XS.iloadN X0.here hx rfl (hb hby d27_0) rfl ?_
    refine XS.iloadN X0.here hx rfl (hb hby d27_1) rfl ?_
    refine XS.ior X0.here hx rfl (hb hby d27_2) rfl ?_
    refine XS.iloadN X0.here hx rfl (hb hby d27_3) rfl ?_
    refine XS.ior X0.here hx rfl (hb hby d27_4) rfl ?_
    refine XS.ifNo X0.here hx rfl (hb hby d27_5) rfl ((if0 _ _).trans (flt (by decide)).1) ?_
    refine XS.iloadN X0.here hx rfl (hb hby d27_8) rfl ?_
    refine XS.iloadN X0.here hx rfl (hb hby d27_9) rfl ?_
    refine XS.iloadN X0.here hx rfl (hb hby d27_10) rfl ?_
    refine XS.isub X0.here hx rfl (hb hby d27_11) rfl ?_
    refine XS.icmpYes X0.here hx rfl (pc0 := 12) (pc' := 23) rfl (hb hby d27_12) rfl (flt (by decide)).2.2.2 (by decide) (by decide) ?_
    refine XS.iloadN X0.here hx rfl (hb hby d27_23) rfl ?_
    exact kt
  exact own_leaveI X0 hx hret hlk (hb hby d27_24) go1 e0 (⟨rfl, N0, rfl⟩) (by decide) (by decide)
theorem own_isref {v : Value} (h : v.isRef = true) : (∃ x, v = .ref x) ∨ v = .null := by cases v <;> first | exact Or.inl ⟨_, rfl⟩ | exact Or.inr rfl | (simp [Value.isRef] at h)
theorem pnj_28 : plainName "java/lang/String" = true := by first | (simp [plainName, overriddenIn]; done) | decide +kernel
theorem efj_rm_scb (m : MethodId)  : entryFrame m #[(.int (0 : Int32)), (.int (17 : Int32)), (.int (34 : Int32))] 3 = mkF m 0 #[.val (.int (0 : Int32)), .val (.int (17 : Int32)), .val (.int (34 : Int32))] [] := by first | (simp [entryFrame, mkF, argsToLocals, Value.category]; done) | rfl
theorem d28_0 : Dc c10 0 (.iload_n 0) 1 := by decide +kernel
theorem d28_1 : Dc c10 1 (.iload_n 1) 1 := by decide +kernel
theorem d28_2 : Dc c10 2 (.iload_n 2) 1 := by decide +kernel
theorem d28_3 : Dc c10 3 (.getstatic 1053) 3 := by decide +kernel
theorem pd4_ : parseMethodDescriptor "(IIILjava/util/function/BiFunction;)I" = some ⟨[.int, .int, .int, (.object "java/util/function/BiFunction")], some .int⟩ := by decide +kernel
theorem d28_6 : Dc c10 6 (.invokestatic 1065) 3 := by decide +kernel
theorem d28_9 : Dc c10 9 (.ireturn) 1 := by decide +kernel
def Q_rm_scb (Z : State) (fm : Value) (h0 : Heap) (n0 : Nat) (v : Option Value) (h : Heap) (L : List Loc) : Prop := v = some (.int (0 : Int32)) ∧ Fr n0 L ∧ h = h0
theorem rm_scb (l : Launch) (Z : State) (a0 : Array Value) (hw : Hw a0 Z) (ws : List Jvm.Cond) (fm : Value) (h0 : Heap) (n0 : Nat) (Z0 : n0 ≤ h0.size) (O0 : Ext Z.heap h0) (hn0 : Z.heap.size ≤ n0) (S_SI : Sta Z Z.heap "jdk/internal/util/Preconditions" "SIOOBE_FORMATTER" "Ljava/util/function/BiFunction;" fm) (rf : fm.isRef = true) :
    MF l y37_ jdk_42_method_157_code 3 (some .int) ws (rM 1 0 0 15) #[(.int (0 : Int32)), (.int (17 : Int32)), (.int (34 : Int32))] Z h0 (Q_rm_scb Z fm h0 n0) := by
  refine own_bodyF n0 (plainFor_of_name pnj_28) (fun m => efj_rm_scb m ) ?_
  intro p e s m below meth c s₁ S0 hx hby hml hZ hown hnm hret hlk X0 e0 hh N0 hK go0
  have go1 : Go p e below s₁ (mkF m 3 #[.val (.int (0 : Int32)), .val (.int (17 : Int32)), .val (.int (34 : Int32))] [(.int (34 : Int32)), (.int (17 : Int32)), (.int (0 : Int32))]) S0 := by
    intro tt kt
    refine go0 tt ?_
    refine XS.iloadN X0.here hx rfl (hb hby d28_0) rfl ?_
    refine XS.iloadN X0.here hx rfl (hb hby d28_1) rfl ?_
    refine XS.iloadN X0.here hx rfl (hb hby d28_2) rfl ?_
    exact kt
  have S_N := S_SI.ext O0
  rcases own_isref rf with ⟨fa, rfl⟩ | rfl
  · obtain ⟨T2, X2, e2, st2⟩ := getS2 X0 hx hZ hown (host := "") (Or.inl (wi hw 42 rfl)) Via.refl e0 S_N (g := (mkF m 3 #[.val (.int (0 : Int32)), .val (.int (17 : Int32)), .val (.int (34 : Int32))] [(.int (34 : Int32)), (.int (17 : Int32)), (.int (0 : Int32))])) rfl (hb hby d28_3)
    have go3 : Go p e below T2 (mkF m 6 #[.val (.int (0 : Int32)), .val (.int (17 : Int32)), .val (.int (34 : Int32))] [(.ref fa), (.int (34 : Int32)), (.int (17 : Int32)), (.int (0 : Int32))]) S0 := fun t kt => go1 t (st2 _ kt)
    obtain ⟨_, _, ⟨T4, L4, k4, n4⟩, -, X4, ⟨Lc4, hQ4, l4, y4, z4⟩, st4⟩ := Jvm.LawKit.callS X2 hx (y := y23_) hown (mvT hZ (wi hw 318 rfl)) (mvT hZ (wi hw 319 rfl)) (mvT hZ (wi hw 43 rfl)) (mvT hZ (wi hw 320 rfl)) (by decide) (backOf (W := 0) (rm_cfisR l Z a0 hw [] fa h0 n0 Z0) hZ (wi hw 320 rfl) (wi hw 43 rfl) (by decide) (by decide)) (g := (mkF m 6 #[.val (.int (0 : Int32)), .val (.int (17 : Int32)), .val (.int (34 : Int32))] [(.ref fa), (.int (34 : Int32)), (.int (17 : Int32)), (.int (0 : Int32))])) rfl (by rw [hml]; rfl) (argsL := [(.int (0 : Int32)), (.int (17 : Int32)), (.int (34 : Int32)), (.ref fa)]) (rest := []) (lenOf pd4_ rfl) rfl (by show 2 * 0 + _ ≤ _; exact Nat.le_of_eq rfl) (hb hby d28_6) (fun _ _ => ⟨rfl, e2, (by decide : 0 + 0 ≤ _), (by decide : 0 + 0 ≤ _)⟩)
    dsimp only [Pt.U, Pt.locs, Pt.cells, Pt.slots] at X4 l4 y4 z4 st4 hQ4
    subst l4 y4 z4
    obtain ⟨rfl, N4q, g4⟩ := hQ4
    rw [← g4] at O0
    rw [← g4] at Z0
    have N4 := Fr.app N0 N4q
    have go5 : Go p e below T4 (mkF m 9 #[.val (.int (0 : Int32)), .val (.int (17 : Int32)), .val (.int (34 : Int32))] [(.int (0 : Int32))]) S0 := fun t kt => go3 t (st4 _ kt)
    exact own_leaveI X4 hx hret hlk (hb hby d28_9) go5 rfl (⟨rfl, N4, g4⟩) (by decide) (by decide)
  · obtain ⟨T6, X6, e6, st6⟩ := getS2 X0 hx hZ hown (host := "") (Or.inl (wi hw 42 rfl)) Via.refl e0 S_N (g := (mkF m 3 #[.val (.int (0 : Int32)), .val (.int (17 : Int32)), .val (.int (34 : Int32))] [(.int (34 : Int32)), (.int (17 : Int32)), (.int (0 : Int32))])) rfl (hb hby d28_3)
    have go7 : Go p e below T6 (mkF m 6 #[.val (.int (0 : Int32)), .val (.int (17 : Int32)), .val (.int (34 : Int32))] [.null, (.int (34 : Int32)), (.int (17 : Int32)), (.int (0 : Int32))]) S0 := fun t kt => go1 t (st6 _ kt)
    obtain ⟨_, _, ⟨T8, L8, k8, n8⟩, -, X8, ⟨Lc8, hQ8, l8, y8, z8⟩, st8⟩ := Jvm.LawKit.callS X6 hx (y := y23_) hown (mvT hZ (wi hw 318 rfl)) (mvT hZ (wi hw 319 rfl)) (mvT hZ (wi hw 43 rfl)) (mvT hZ (wi hw 320 rfl)) (by decide) (backOf (W := 0) (rm_cfisN l Z a0 hw []  h0 n0 Z0) hZ (wi hw 320 rfl) (wi hw 43 rfl) (by decide) (by decide)) (g := (mkF m 6 #[.val (.int (0 : Int32)), .val (.int (17 : Int32)), .val (.int (34 : Int32))] [.null, (.int (34 : Int32)), (.int (17 : Int32)), (.int (0 : Int32))])) rfl (by rw [hml]; rfl) (argsL := [(.int (0 : Int32)), (.int (17 : Int32)), (.int (34 : Int32)), .null]) (rest := []) (lenOf pd4_ rfl) rfl (by show 2 * 0 + _ ≤ _; exact Nat.le_of_eq rfl) (hb hby d28_6) (fun _ _ => ⟨rfl, e6, (by decide : 0 + 0 ≤ _), (by decide : 0 + 0 ≤ _)⟩)
    dsimp only [Pt.U, Pt.locs, Pt.cells, Pt.slots] at X8 l8 y8 z8 st8 hQ8
    subst l8 y8 z8
    obtain ⟨rfl, N8q, g8⟩ := hQ8
    rw [← g8] at O0
    rw [← g8] at Z0
    have N8 := Fr.app N0 N8q
    have go9 : Go p e below T8 (mkF m 9 #[.val (.int (0 : Int32)), .val (.int (17 : Int32)), .val (.int (34 : Int32))] [(.int (0 : Int32))]) S0 := fun t kt => go7 t (st8 _ kt)
    exact own_leaveI X8 hx hret hlk (hb hby d28_9) go9 rfl (⟨rfl, N8, g8⟩) (by decide) (by decide)
theorem pnj_29 : plainName "java/lang/StringUTF16" = true := by first | (simp [plainName, overriddenIn]; done) | decide +kernel
theorem efj_rm_ucb (m : MethodId) (a3 : Addr) : entryFrame m #[(.int (0 : Int32)), (.int (17 : Int32)), (.ref a3)] 3 = mkF m 0 #[.val (.int (0 : Int32)), .val (.int (17 : Int32)), .val (.ref a3)] [] := by first | (simp [entryFrame, mkF, argsToLocals, Value.category]; done) | rfl
theorem d29_0 : Dc c30 0 (.iload_n 0) 1 := by decide +kernel
theorem d29_1 : Dc c30 1 (.iload_n 1) 1 := by decide +kernel
theorem d29_2 : Dc c30 2 (.aload_n 2) 1 := by decide +kernel
theorem pd30_ : parseMethodDescriptor "([B)I" = some ⟨[(.array .byte)], some .int⟩ := by decide +kernel
theorem d29_3 : Dc c30 3 (.invokestatic 48) 3 := by decide +kernel
theorem d29_6 : Dc c30 6 (.invokestatic 419) 3 := by decide +kernel
theorem d29_9 : Dc c30 9 (.pop) 1 := by decide +kernel
theorem d29_10 : Dc c30 10 (.return_) 1 := by decide +kernel
def Q_rm_ucb (Z : State) (a3 : Addr) (k3 : ClassId) (vs : List Value) (fm : Value) (h0 : Heap) (n0 : Nat) (v : Option Value) (h : Heap) (L : List Loc) : Prop := v = none ∧ Fr n0 L ∧ h = h0
theorem rm_ucb (l : Launch) (Z : State) (a0 : Array Value) (hw : Hw a0 Z) (ws : List Jvm.Cond) (a3 : Addr) (k3 : ClassId) (vs : List Value) (fm : Value) (h0 : Heap) (n0 : Nat) (Z0 : n0 ≤ h0.size) (O0 : Ext Z.heap h0) (hn0 : Z.heap.size ≤ n0) (S_SI : Sta Z Z.heap "jdk/internal/util/Preconditions" "SIOOBE_FORMATTER" "Ljava/util/function/BiFunction;" fm) (rf : fm.isRef = true) (V_a3 : Arv Z h0 a3 k3 .byte (Int32.ofNat 68) vs (.int (0 : Int32))) :
    MF l y34_ jdk_52_method_94_code 3 none ws (rM 2 0 0 29) #[(.int (0 : Int32)), (.int (17 : Int32)), (.ref a3)] Z h0 (Q_rm_ucb Z a3 k3 vs fm h0 n0) := by
  refine own_bodyF n0 (plainFor_of_name pnj_29) (fun m => efj_rm_ucb m a3) ?_
  intro p e s m below meth c s₁ S0 hx hby hml hZ hown hnm hret hlk X0 e0 hh N0 hK go0
  have go1 : Go p e below s₁ (mkF m 3 #[.val (.int (0 : Int32)), .val (.int (17 : Int32)), .val (.ref a3)] [(.ref a3), (.int (17 : Int32)), (.int (0 : Int32))]) S0 := by
    intro tt kt
    refine go0 tt ?_
    refine XS.iloadN X0.here hx rfl (hb hby d29_0) rfl ?_
    refine XS.iloadN X0.here hx rfl (hb hby d29_1) rfl ?_
    refine XS.aloadN X0.here hx rfl (hb hby d29_2) rfl rfl ?_
    exact kt
  obtain ⟨_, _, ⟨T2, L2, k2, n2⟩, -, X2, ⟨Lc2, hQ2, l2, y2, z2⟩, st2⟩ := Jvm.LawKit.callS X0 hx (y := y42_) hown (mvT hZ (wi hw 312 rfl)) (mvT hZ (wi hw 313 rfl)) (mvT hZ (wi hw 49 rfl)) (mvT hZ (wi hw 314 rfl)) (by decide) (backOf (W := 2) (rm_u16l l Z a0 hw [] a3 k3 vs h0 n0 Z0 V_a3) hZ (wi hw 314 rfl) (wi hw 49 rfl) (by decide) (by decide)) (g := (mkF m 3 #[.val (.int (0 : Int32)), .val (.int (17 : Int32)), .val (.ref a3)] [(.ref a3), (.int (17 : Int32)), (.int (0 : Int32))])) rfl (by rw [hml]; rfl) (argsL := [(.ref a3)]) (rest := [(.int (17 : Int32)), (.int (0 : Int32))]) (lenOf pd30_ rfl) rfl (by show 2 * 0 + _ ≤ _; exact Nat.le_of_eq rfl) (hb hby d29_3) (fun _ _ => ⟨rfl, e0, (by decide : 0 + 0 ≤ _), (by decide : 0 + 0 ≤ _)⟩)
  dsimp only [Pt.U, Pt.locs, Pt.cells, Pt.slots] at X2 l2 y2 z2 st2 hQ2
  subst l2 y2 z2
  obtain ⟨rfl, N2q, g2⟩ := hQ2
  rw [← g2] at O0
  rw [← g2] at Z0
  have N2 := Fr.app N0 N2q
  have go3 : Go p e below T2 (mkF m 6 #[.val (.int (0 : Int32)), .val (.int (17 : Int32)), .val (.ref a3)] [(.int (34 : Int32)), (.int (17 : Int32)), (.int (0 : Int32))]) S0 := fun t kt => go1 t (st2 _ kt)
  obtain ⟨_, _, ⟨T4, L4, k4, n4⟩, -, X4, ⟨Lc4, hQ4, l4, y4, z4⟩, st4⟩ := Jvm.LawKit.callS X2 hx (y := y37_) hown (mvT hZ (wi hw 315 rfl)) (mvT hZ (wi hw 316 rfl)) (mvT hZ (wi hw 4 rfl)) (mvT hZ (wi hw 317 rfl)) (by decide) (backOf (W := 0) (rm_scb l Z a0 hw [] fm T2.heap n0 Z0 O0 hn0 S_SI rf) hZ (wi hw 317 rfl) (wi hw 4 rfl) (by decide) (by decide)) (g := (mkF m 6 #[.val (.int (0 : Int32)), .val (.int (17 : Int32)), .val (.ref a3)] [(.int (34 : Int32)), (.int (17 : Int32)), (.int (0 : Int32))])) rfl (by rw [hml]; rfl) (argsL := [(.int (0 : Int32)), (.int (17 : Int32)), (.int (34 : Int32))]) (rest := []) (lenOf pd23_ rfl) rfl (by show 2 * 0 + _ ≤ _; exact Nat.le_of_eq rfl) (hb hby d29_6) (fun _ _ => ⟨rfl, rfl, (by decide : 0 + 0 ≤ _), (by decide : 0 + 0 ≤ _)⟩)
  dsimp only [Pt.U, Pt.locs, Pt.cells, Pt.slots] at X4 l4 y4 z4 st4 hQ4
  subst l4 y4 z4
  obtain ⟨rfl, N4q, g4⟩ := hQ4
  rw [← g4] at O0
  rw [← g4] at Z0
  have N4 := Fr.app N2 N4q
  have go5 : Go p e below T4 (mkF m 9 #[.val (.int (0 : Int32)), .val (.int (17 : Int32)), .val (.ref a3)] [(.int (0 : Int32))]) S0 := fun t kt => go3 t (st4 _ kt)
  have go6 : Go p e below T4 (mkF m 10 #[.val (.int (0 : Int32)), .val (.int (17 : Int32)), .val (.ref a3)] []) S0 := by
    intro tt kt
    refine go5 tt ?_
    refine XS.pop X4.here hx rfl (hb hby d29_9) rfl rfl ?_
    exact kt
  exact own_leaveV X4 hx hret hlk (hb hby d29_10) go6 rfl (⟨rfl, N4, (g4.trans g2)⟩) (by decide) (by decide)
theorem d30_10 : Dc c29 10 (.iload 5) 2 := by decide +kernel
theorem d30_12 : Dc c29 12 (.iload 4) 2 := by decide +kernel
theorem d30_14 : Dc c29 14 (.if_icmp .ge 27) 3 := by decide +kernel
theorem d30_17 : Dc c29 17 (.aload_n 2) 1 := by decide +kernel
theorem d30_18 : Dc c29 18 (.iload_n 3) 1 := by decide +kernel
theorem d30_19 : Dc c29 19 (.iinc 3 1) 3 := by decide +kernel
theorem d30_22 : Dc c29 22 (.aload_n 0) 1 := by decide +kernel
theorem d30_23 : Dc c29 23 (.iload_n 1) 1 := by decide +kernel
theorem d30_24 : Dc c29 24 (.iinc 1 1) 3 := by decide +kernel
theorem d30_27 : Dc c29 27 (.baload) 1 := by decide +kernel
theorem d30_28 : Dc c29 28 (.sipush 255) 3 := by decide +kernel
theorem d30_31 : Dc c29 31 (.iand) 1 := by decide +kernel
theorem d30_32 : Dc c29 32 (.invokestatic 111) 3 := by decide +kernel
theorem d30_35 : Dc c29 35 (.iinc 5 1) 3 := by decide +kernel
theorem d30_38 : Dc c29 38 (.goto (-28)) 3 := by decide +kernel
set_option maxRecDepth 65536 in
set_option maxHeartbeats 40000000 in
theorem own_loopIN {p : Program} {l : Launch} {e : Env} {s : State} {m : MethodId} {args : Array Value} {below : List Frame} {meth : Method} {c : Code} {Z : State} {a0 : Array Value} {n0 : Nat} {a1 b : Addr} {k1 kb : ClassId} {us : List Value} {cs : List Int32} (hw : ∀ d ∈ tables_1, d.before a0 Z = true) (hx : p.tables.exec = Jvm.exec) (hZ : Z.Warmed39 s.vm) (hown : s.vm.findClass "java/lang/StringUTF16" = some m.cls) (hby : c.code = jdk_52_method_86_code) (hml : c.maxLocals = 6) (hn0 : Z.heap.size ≤ n0) (S_AD : Sta Z Z.heap "java/lang/StringUTF16" "$assertionsDisabled" "Z" (.int (1 : Int32))) (S_HI : Sta Z Z.heap "java/lang/StringUTF16" "HI_BYTE_SHIFT" "I" (.int (0 : Int32))) (S_LO : Sta Z Z.heap "java/lang/StringUTF16" "LO_BYTE_SHIFT" "I" (.int (8 : Int32))) (g_b : n0 ≤ b) (ne_a1_b : a1 ≠ b) (hul : us.length = 34) (hsrc : ∀ j, j < 17 → us.getD j (.int (0 : Int32)) = .int (own_lb (cs.getD j 0))) (hbb : ∀ j, j < 17 → (own_lb (cs.getD j 0)) &&& (255 : Int32) = cs.getD j 0) :
    ∀ (d j : Nat), j + d = 17 → ∀ (T0 : State) (h0 : Heap) (locs : List Loc) (vs : List Value), Stand p l e ({ frames := 3, cells := 0, slots := 0, locals := 43 } : Room) s m args below meth c T0 locs 0 0 → T0.heap = h0 → n0 ≤ h0.size → Ext Z.heap h0 → Arv Z h0 a1 k1 .byte (34 : Int32) us (.int (0 : Int32)) → Arv Z h0 b kb .byte (Int32.ofNat 68) vs (.int (0 : Int32)) → vs.length = 68 → Fr n0 locs →
      ∃ (T1 : State) (h1 : Heap) (locs1 : List Loc), Stand p l e ({ frames := 3, cells := 0, slots := 0, locals := 43 } : Room) s m args below meth c T1 locs1 0 0 ∧ T1.heap = h1 ∧ Fr n0 locs1 ∧ Keep h0 h1 [b] ∧ Arv Z h1 b kb .byte (Int32.ofNat 68) (own_puts cs j d vs) (.int (0 : Int32)) ∧ ∀ t, Steps p.tables e below (T1.setTop (mkF m 41 #[.val (.ref a1), .val (.int (Int32.ofNat 17)), .val (.ref b), .val (.int (Int32.ofNat 17)), .val (.int (17 : Int32)), .val (.int (Int32.ofNat 17))] [])) t → Steps p.tables e below (T0.setTop (mkF m 10 #[.val (.ref a1), .val (.int (Int32.ofNat j)), .val (.ref b), .val (.int (Int32.ofNat j)), .val (.int (17 : Int32)), .val (.int (Int32.ofNat j))] [])) t := by
  intro d
  induction d with
  | zero =>
    intro j hj T0 h0 locs vs X0 e0 Z0 O0 V_a1 V_b hvl N0
    obtain rfl : j = 17 := by omega
    have go0 : Go p e below T0 (mkF m 10 #[.val (.ref a1), .val (.int (Int32.ofNat 17)), .val (.ref b), .val (.int (Int32.ofNat 17)), .val (.int (17 : Int32)), .val (.int (Int32.ofNat 17))] []) (T0.setTop (mkF m 10 #[.val (.ref a1), .val (.int (Int32.ofNat 17)), .val (.ref b), .val (.int (Int32.ofNat 17)), .val (.int (17 : Int32)), .val (.int (Int32.ofNat 17))] [])) := fun t k => k
    generalize (T0.setTop (mkF m 10 #[.val (.ref a1), .val (.int (Int32.ofNat 17)), .val (.ref b), .val (.int (Int32.ofNat 17)), .val (.int (17 : Int32)), .val (.int (Int32.ofNat 17))] [])) = S0 at go0 ⊢
    have go1 : Go p e below T0 (mkF m 41 #[.val (.ref a1), .val (.int (Int32.ofNat 17)), .val (.ref b), .val (.int (Int32.ofNat 17)), .val (.int (17 : Int32)), .val (.int (Int32.ofNat 17))] []) S0 := by
      intro tt kt
      refine go0 tt ?_
      refine XS.iload X0.here hx rfl (hb hby d30_10) rfl ?_
      refine XS.iload X0.here hx rfl (hb hby d30_12) rfl ?_
      refine XS.icmpYes X0.here hx rfl (pc0 := 14) (pc' := 41) rfl (hb hby d30_14) rfl (flt (by decide)).2.1 (by decide) (by decide) ?_
      exact kt
    exact ⟨T0, h0, locs, X0, e0, N0, Keep.refl h0 [b], V_b, go1⟩
  | succ d ih =>
    intro j hj T0 h0 locs vs X0 e0 Z0 O0 V_a1 V_b hvl N0
    have K0 : Keep h0 h0 [b] := Keep.refl h0 [b]
    have hv0 := hsrc j (by omega)
    have hz : (34 : Int32).toNatClampNeg = us.length := by rw [hul]; rfl
    have go0 : Go p e below T0 (mkF m 10 #[.val (.ref a1), .val (.int (Int32.ofNat j)), .val (.ref b), .val (.int (Int32.ofNat j)), .val (.int (17 : Int32)), .val (.int (Int32.ofNat j))] []) (T0.setTop (mkF m 10 #[.val (.ref a1), .val (.int (Int32.ofNat j)), .val (.ref b), .val (.int (Int32.ofNat j)), .val (.int (17 : Int32)), .val (.int (Int32.ofNat j))] [])) := fun t k => k
    generalize (T0.setTop (mkF m 10 #[.val (.ref a1), .val (.int (Int32.ofNat j)), .val (.ref b), .val (.int (Int32.ofNat j)), .val (.int (17 : Int32)), .val (.int (Int32.ofNat j))] [])) = S0 at go0 ⊢
    have go2 : Go p e below T0 (mkF m 27 #[.val (.ref a1), .val (.int ((Int32.ofNat j) + (1 : Int32))), .val (.ref b), .val (.int ((Int32.ofNat j) + (1 : Int32))), .val (.int (17 : Int32)), .val (.int (Int32.ofNat j))] [(.int (Int32.ofNat j)), (.ref a1), (.int (Int32.ofNat j)), (.ref b)]) S0 := by
      intro tt kt
      refine go0 tt ?_
      refine XS.iload X0.here hx rfl (hb hby d30_10) rfl ?_
      refine XS.iload X0.here hx rfl (hb hby d30_12) rfl ?_
      refine XS.icmpNo X0.here hx rfl (hb hby d30_14) rfl (tlt (own_ltN (n := 17) (by omega) (by omega))).2.1 ?_
      refine XS.aloadN X0.here hx rfl (hb hby d30_17) rfl rfl ?_
      refine XS.iloadN X0.here hx rfl (hb hby d30_18) rfl ?_
      refine XS.iinc X0.here hx rfl (hb hby d30_19) rfl (l' := #[.val (.ref a1), .val (.int (Int32.ofNat j)), .val (.ref b), .val (.int ((Int32.ofNat j) + (1 : Int32))), .val (.int (17 : Int32)), .val (.int (Int32.ofNat j))]) rfl ?_
      refine XS.aloadN X0.here hx rfl (hb hby d30_22) rfl rfl ?_
      refine XS.iloadN X0.here hx rfl (hb hby d30_23) rfl ?_
      refine XS.iinc X0.here hx rfl (hb hby d30_24) rfl (l' := #[.val (.ref a1), .val (.int ((Int32.ofNat j) + (1 : Int32))), .val (.ref b), .val (.int ((Int32.ofNat j) + (1 : Int32))), .val (.int (17 : Int32)), .val (.int (Int32.ofNat j))]) rfl ?_
      exact kt
    obtain ⟨cl3, Ar3, q3, S3, N3, H3, G3⟩ := id V_a1
    have go5 : Go p e below T0 (mkF m 32 #[.val (.ref a1), .val (.int ((Int32.ofNat j) + (1 : Int32))), .val (.ref b), .val (.int ((Int32.ofNat j) + (1 : Int32))), .val (.int (17 : Int32)), .val (.int (Int32.ofNat j))] [(.int ((own_lb (cs.getD j 0)) &&& (255 : Int32))), (.int (Int32.ofNat j)), (.ref b)]) S0 := by
      intro tt kt
      refine go2 tt ?_
      refine X0.baloadBytes hx (j := (Int32.ofNat j)) (v := (.int (own_lb (cs.getD j 0)))) (by rw [e0]; exact Ar3.1) (State.isArrayOf_alike hZ.alike Ar3.2.1) Ar3.2.2 (fun q => q.elim (oN (by omega)) fun q => by rw [S3, hz, (oC (n := j) (by omega))] at q; omega) (by rw [(oC (n := j) (by omega)), H3 _ (by rw [S3, hz]; omega)]; exact congrArg some hv0) (g := (mkF m 27 #[.val (.ref a1), .val (.int ((Int32.ofNat j) + (1 : Int32))), .val (.ref b), .val (.int ((Int32.ofNat j) + (1 : Int32))), .val (.int (17 : Int32)), .val (.int (Int32.ofNat j))] [(.int (Int32.ofNat j)), (.ref a1), (.int (Int32.ofNat j)), (.ref b)])) rfl rfl (hb hby d30_27) _ ?_
      refine XS.sipush X0.here hx rfl (hb hby d30_28) ?_
      refine XS.iand X0.here hx rfl (hb hby d30_31) rfl ?_
      exact kt
    have cv6 : ((own_lb (cs.getD j 0)) &&& (255 : Int32)) = (cs.getD j 0) := (hbb j (by omega))
    have go6 : Go p e below T0 (mkF m 32 #[.val (.ref a1), .val (.int ((Int32.ofNat j) + (1 : Int32))), .val (.ref b), .val (.int ((Int32.ofNat j) + (1 : Int32))), .val (.int (17 : Int32)), .val (.int (Int32.ofNat j))] [(.int (cs.getD j 0)), (.int (Int32.ofNat j)), (.ref b)]) S0 := by have q := go5; rw [cv6] at q; exact q
    obtain ⟨_, _, ⟨T7, L7, k7, n7⟩, -, X7, ⟨Lc7, hQ7, l7, y7, z7⟩, st7⟩ := Jvm.LawKit.callS X0 hx (y := y31_) hown (mvT hZ (wi hw 288 rfl)) (mvT hZ (wi hw 289 rfl)) (mvT hZ (wi hw 49 rfl)) (mvT hZ (wi hw 290 rfl)) (by decide) (backOf (W := 0) (rm_putChar l Z a0 hw [] b j (cs.getD j 0) kb (Int32.ofNat 68) vs h0 n0 Z0 (S_AD.ext O0) (S_HI.ext O0) (S_LO.ext O0) g_b V_b (by rw [hvl]; rfl) (by omega) (by omega)) hZ (wi hw 290 rfl) (wi hw 49 rfl) (by decide) (by decide)) (g := (mkF m 32 #[.val (.ref a1), .val (.int ((Int32.ofNat j) + (1 : Int32))), .val (.ref b), .val (.int ((Int32.ofNat j) + (1 : Int32))), .val (.int (17 : Int32)), .val (.int (Int32.ofNat j))] [(.int (cs.getD j 0)), (.int (Int32.ofNat j)), (.ref b)])) rfl (by rw [hml]; rfl) (argsL := [(.ref b), (.int (Int32.ofNat j)), (.int (cs.getD j 0))]) (rest := []) (lenOf pd18_ rfl) rfl (by show 2 * 0 + _ ≤ _; exact Nat.le_of_eq rfl) (hb hby d30_32) (fun _ _ => ⟨rfl, e0, (by decide : 0 + 0 ≤ _), (by decide : 0 + 0 ≤ _)⟩)
    dsimp only [Pt.U, Pt.locs, Pt.cells, Pt.slots] at X7 l7 y7 z7 st7 hQ7
    subst l7 y7 z7
    obtain ⟨rfl, N7q, K7, V7⟩ := hQ7
    have K0 := K0.trans K7 (allS (Or.inl (List.mem_singleton.mpr rfl)) all0)
    have Z0 := Nat.le_trans Z0 K7.1
    have V_a1 := V_a1.keep K7 (ninS ne_a1_b nin0)
    have O0 := oO O0 K7 hn0 (allS g_b all0)
    have V_b : Arv Z T7.heap b kb .byte (Int32.ofNat 68) (own_put vs j (cs.getD j 0)) (.int (0 : Int32)) := V7
    have N7 := Fr.app N0 N7q
    have go8 : Go p e below T7 (mkF m 35 #[.val (.ref a1), .val (.int ((Int32.ofNat j) + (1 : Int32))), .val (.ref b), .val (.int ((Int32.ofNat j) + (1 : Int32))), .val (.int (17 : Int32)), .val (.int (Int32.ofNat j))] []) S0 := fun t kt => go6 t (st7 _ kt)
    have go9 : Go p e below T7 (mkF m 10 #[.val (.ref a1), .val (.int ((Int32.ofNat j) + (1 : Int32))), .val (.ref b), .val (.int ((Int32.ofNat j) + (1 : Int32))), .val (.int (17 : Int32)), .val (.int ((Int32.ofNat j) + (1 : Int32)))] []) S0 := by
      intro tt kt
      refine go8 tt ?_
      refine XS.iinc X7.here hx rfl (hb hby d30_35) rfl (l' := #[.val (.ref a1), .val (.int ((Int32.ofNat j) + (1 : Int32))), .val (.ref b), .val (.int ((Int32.ofNat j) + (1 : Int32))), .val (.int (17 : Int32)), .val (.int ((Int32.ofNat j) + (1 : Int32)))]) rfl ?_
      refine XS.goto X7.here hx rfl (pc0 := 38) (pc' := 10) rfl (hb hby d30_38) (by decide) (by decide) ?_
      exact kt
    have go10 : Go p e below T7 (mkF m 10 #[.val (.ref a1), .val (.int (Int32.ofNat (j + 1))), .val (.ref b), .val (.int (Int32.ofNat (j + 1))), .val (.int (17 : Int32)), .val (.int (Int32.ofNat (j + 1)))] []) S0 := by rw [← own_one]; exact go9
    obtain ⟨T1, h1, locs1, X1, e1, N1, K1, V1, st1⟩ := ih (j + 1) (by omega) T7 T7.heap _ _ X7 rfl Z0 O0 V_a1 V_b (by simp only [own_put, List.length_set]; exact hvl) N7
    exact ⟨T1, h1, locs1, X1, e1, N1, K0.trans K1 (allS (Or.inl (List.mem_singleton.mpr rfl)) all0), V1, fun t kt => go10 t (st1 t kt)⟩
def own_L34 : List Value := own_PB ++ List.replicate 17 (.int (0 : Int32))
def own_L68 : List Value := own_PU ++ List.replicate 34 (.int (0 : Int32))
def own_DL (ds : List Value) : List Value := own_L34.take 17 ++ ds ++ own_L34.drop (17 + ds.length)
def own_DU (ds : List Value) : List Value := own_L68.take 34 ++ ds ++ own_L68.drop (34 + ds.length)
theorem own_srcP : ∀ j, j < 17 → own_L34.getD j (.int (0 : Int32)) = .int (own_lb (own_P.getD j 0)) := by decide +kernel
theorem own_bbP : ∀ j, j < 17 → (own_lb (own_P.getD j 0)) &&& (255 : Int32) = own_P.getD j 0 := by decide +kernel
theorem own_infP : own_puts own_P 0 17 (List.replicate 68 (Value.int (0 : Int32))) = own_L68 := by decide +kernel
theorem own_l34 : own_L34.length = 34 := by decide +kernel
theorem own_l68 : own_L68.length = 68 := by decide +kernel
theorem pnj_30 : plainName "java/lang/StringUTF16" = true := by first | (simp [plainName, overriddenIn]; done) | decide +kernel
theorem efj_rm_uinf (m : MethodId) (a1 : Addr) (b : Addr) : entryFrame m #[(.ref a1), (.int (0 : Int32)), (.ref b), (.int (0 : Int32)), (.int (17 : Int32))] 6 = mkF m 0 #[.val (.ref a1), .val (.int (0 : Int32)), .val (.ref b), .val (.int (0 : Int32)), .val (.int (17 : Int32)), .unset] [] := by first | (simp [entryFrame, mkF, argsToLocals, Value.category]; done) | rfl
theorem d30_0 : Dc c29 0 (.iload_n 3) 1 := by decide +kernel
theorem d30_1 : Dc c29 1 (.iload 4) 2 := by decide +kernel
theorem d30_3 : Dc c29 3 (.aload_n 2) 1 := by decide +kernel
theorem pd22_ : parseMethodDescriptor "(II[B)V" = some ⟨[.int, .int, (.array .byte)], none⟩ := by decide +kernel
theorem d30_4 : Dc c29 4 (.invokestatic 173) 3 := by decide +kernel
theorem d30_7 : Dc c29 7 (.iconst 0) 1 := by decide +kernel
theorem d30_8 : Dc c29 8 (.istore 5) 2 := by decide +kernel
theorem d30_41 : Dc c29 41 (.return_) 1 := by decide +kernel
def Q_rm_uinf (Z : State) (a1 : Addr) (b : Addr) (k1 : ClassId) (kb : ClassId) (fm : Value) (h0 : Heap) (n0 : Nat) (v : Option Value) (h : Heap) (L : List Loc) : Prop := v = none ∧ Fr n0 L ∧ Keep h0 h [b] ∧ Arv Z h b kb .byte (Int32.ofNat 68) own_L68 (.int (0 : Int32))
theorem rm_uinf (l : Launch) (Z : State) (a0 : Array Value) (hw : Hw a0 Z) (ws : List Jvm.Cond) (a1 : Addr) (b : Addr) (k1 : ClassId) (kb : ClassId) (fm : Value) (h0 : Heap) (n0 : Nat) (Z0 : n0 ≤ h0.size) (O0 : Ext Z.heap h0) (hn0 : Z.heap.size ≤ n0) (S_AD : Sta Z Z.heap "java/lang/StringUTF16" "$assertionsDisabled" "Z" (.int (1 : Int32))) (S_HI : Sta Z Z.heap "java/lang/StringUTF16" "HI_BYTE_SHIFT" "I" (.int (0 : Int32))) (S_LO : Sta Z Z.heap "java/lang/StringUTF16" "LO_BYTE_SHIFT" "I" (.int (8 : Int32))) (S_SI : Sta Z Z.heap "jdk/internal/util/Preconditions" "SIOOBE_FORMATTER" "Ljava/util/function/BiFunction;" fm) (rf : fm.isRef = true) (g_b : n0 ≤ b) (ne_a1_b : a1 ≠ b) (V_a1 : Arv Z h0 a1 k1 .byte (34 : Int32) own_L34 (.int (0 : Int32))) (V_b : Arv Z h0 b kb .byte (Int32.ofNat 68) (List.replicate 68 (Value.int (0 : Int32))) (.int (0 : Int32))) :
    MF l y48_ jdk_52_method_86_code 6 none ws (rM 3 0 0 43) #[(.ref a1), (.int (0 : Int32)), (.ref b), (.int (0 : Int32)), (.int (17 : Int32))] Z h0 (Q_rm_uinf Z a1 b k1 kb fm h0 n0) := by
  refine own_bodyF n0 (plainFor_of_name pnj_30) (fun m => efj_rm_uinf m a1 b) ?_
  intro p e s m below meth c s₁ S0 hx hby hml hZ hown hnm hret hlk X0 e0 hh N0 hK go0
  have K0 : Keep h0 h0 [b] := Keep.refl h0 [b]
  have go1 : Go p e below s₁ (mkF m 4 #[.val (.ref a1), .val (.int (0 : Int32)), .val (.ref b), .val (.int (0 : Int32)), .val (.int (17 : Int32)), .unset] [(.ref b), (.int (17 : Int32)), (.int (0 : Int32))]) S0 := by
    intro tt kt
    refine go0 tt ?_
    refine XS.iloadN X0.here hx rfl (hb hby d30_0) rfl ?_
    refine XS.iload X0.here hx rfl (hb hby d30_1) rfl ?_
    refine XS.aloadN X0.here hx rfl (hb hby d30_3) rfl rfl ?_
    exact kt
  obtain ⟨_, _, ⟨T2, L2, k2, n2⟩, -, X2, ⟨Lc2, hQ2, l2, y2, z2⟩, st2⟩ := Jvm.LawKit.callS X0 hx (y := y34_) hown (mvT hZ (wi hw 309 rfl)) (mvT hZ (wi hw 310 rfl)) (mvT hZ (wi hw 49 rfl)) (mvT hZ (wi hw 311 rfl)) (by decide) (backOf (W := 0) (rm_ucb l Z a0 hw [] b kb _ fm h0 n0 Z0 (oO O0 K0 hn0 (allS g_b all0)) hn0 S_SI rf V_b) hZ (wi hw 311 rfl) (wi hw 49 rfl) (by decide) (by decide)) (g := (mkF m 4 #[.val (.ref a1), .val (.int (0 : Int32)), .val (.ref b), .val (.int (0 : Int32)), .val (.int (17 : Int32)), .unset] [(.ref b), (.int (17 : Int32)), (.int (0 : Int32))])) rfl (by rw [hml]; rfl) (argsL := [(.int (0 : Int32)), (.int (17 : Int32)), (.ref b)]) (rest := []) (lenOf pd22_ rfl) rfl (by show 2 * 0 + _ ≤ _; exact Nat.le_of_eq rfl) (hb hby d30_4) (fun _ _ => ⟨rfl, e0, (by decide : 0 + 0 ≤ _), (by decide : 0 + 0 ≤ _)⟩)
  dsimp only [Pt.U, Pt.locs, Pt.cells, Pt.slots] at X2 l2 y2 z2 st2 hQ2
  subst l2 y2 z2
  obtain ⟨rfl, N2q, g2⟩ := hQ2
  have K0 := own_ks g2 K0
  rw [← g2] at V_a1 V_b Z0
  have N2 := Fr.app N0 N2q
  have go3 : Go p e below T2 (mkF m 7 #[.val (.ref a1), .val (.int (0 : Int32)), .val (.ref b), .val (.int (0 : Int32)), .val (.int (17 : Int32)), .unset] []) S0 := fun t kt => go1 t (st2 _ kt)
  have go4 : Go p e below T2 (mkF m 10 #[.val (.ref a1), .val (.int (0 : Int32)), .val (.ref b), .val (.int (0 : Int32)), .val (.int (17 : Int32)), .val (.int (0 : Int32))] []) S0 := by
    intro tt kt
    refine go3 tt ?_
    refine XS.iconst X2.here hx rfl (hb hby d30_7) ?_
    refine XS.istore X2.here hx rfl (hb hby d30_8) rfl (l' := #[.val (.ref a1), .val (.int (0 : Int32)), .val (.ref b), .val (.int (0 : Int32)), .val (.int (17 : Int32)), .val (.int (0 : Int32))]) rfl ?_
    exact kt
  obtain ⟨T1, h1, locs1, X1, e1, N1, K1, V1, st1⟩ := own_loopIN hw hx hZ hown hby hml hn0 S_AD S_HI S_LO g_b ne_a1_b own_l34 own_srcP own_bbP 17 0 (by omega) T2 T2.heap _ _ X2 rfl Z0 (oO O0 K0 hn0 (allS g_b all0)) V_a1 V_b (by decide +kernel) N2
  have go5 : Go p e below T1 (mkF m 41 #[.val (.ref a1), .val (.int (Int32.ofNat 17)), .val (.ref b), .val (.int (Int32.ofNat 17)), .val (.int (17 : Int32)), .val (.int (Int32.ofNat 17))] []) S0 := fun t kt => go4 t (st1 t kt)
  have K0 := K0.trans K1 (allS (Or.inl (List.mem_cons_self ..)) all0)
  exact own_leaveV X1 hx hret hlk (hb hby d30_41) go5 e1 (⟨rfl, N1, K0, oA V1 own_infP⟩) (by decide) (by decide)
theorem pnj_31 : plainName "java/lang/StringLatin1" = true := by first | (simp [plainName, overriddenIn]; done) | decide +kernel
theorem efj_rm_linf (m : MethodId) (a1 : Addr) (b : Addr) : entryFrame m #[(.ref a1), (.int (0 : Int32)), (.ref b), (.int (0 : Int32)), (.int (17 : Int32))] 5 = mkF m 0 #[.val (.ref a1), .val (.int (0 : Int32)), .val (.ref b), .val (.int (0 : Int32)), .val (.int (17 : Int32))] [] := by first | (simp [entryFrame, mkF, argsToLocals, Value.category]; done) | rfl
theorem d31_0 : Dc c18 0 (.aload_n 0) 1 := by decide +kernel
theorem d31_1 : Dc c18 1 (.iload_n 1) 1 := by decide +kernel
theorem d31_2 : Dc c18 2 (.aload_n 2) 1 := by decide +kernel
theorem d31_3 : Dc c18 3 (.iload_n 3) 1 := by decide +kernel
theorem d31_4 : Dc c18 4 (.iload 4) 2 := by decide +kernel
theorem pd15_ : parseMethodDescriptor "([BI[BII)V" = some ⟨[(.array .byte), .int, (.array .byte), .int, .int], none⟩ := by decide +kernel
theorem d31_6 : Dc c18 6 (.invokestatic 240) 3 := by decide +kernel
theorem d31_9 : Dc c18 9 (.return_) 1 := by decide +kernel
def Q_rm_linf (Z : State) (a1 : Addr) (b : Addr) (k1 : ClassId) (kb : ClassId) (fm : Value) (h0 : Heap) (n0 : Nat) (v : Option Value) (h : Heap) (L : List Loc) : Prop := v = none ∧ Fr n0 L ∧ Keep h0 h [b] ∧ Arv Z h b kb .byte (Int32.ofNat 68) own_L68 (.int (0 : Int32))
theorem rm_linf (l : Launch) (Z : State) (a0 : Array Value) (hw : Hw a0 Z) (ws : List Jvm.Cond) (a1 : Addr) (b : Addr) (k1 : ClassId) (kb : ClassId) (fm : Value) (h0 : Heap) (n0 : Nat) (Z0 : n0 ≤ h0.size) (O0 : Ext Z.heap h0) (hn0 : Z.heap.size ≤ n0) (S_AD : Sta Z Z.heap "java/lang/StringUTF16" "$assertionsDisabled" "Z" (.int (1 : Int32))) (S_HI : Sta Z Z.heap "java/lang/StringUTF16" "HI_BYTE_SHIFT" "I" (.int (0 : Int32))) (S_LO : Sta Z Z.heap "java/lang/StringUTF16" "LO_BYTE_SHIFT" "I" (.int (8 : Int32))) (S_SI : Sta Z Z.heap "jdk/internal/util/Preconditions" "SIOOBE_FORMATTER" "Ljava/util/function/BiFunction;" fm) (rf : fm.isRef = true) (g_b : n0 ≤ b) (ne_a1_b : a1 ≠ b) (V_a1 : Arv Z h0 a1 k1 .byte (34 : Int32) own_L34 (.int (0 : Int32))) (V_b : Arv Z h0 b kb .byte (Int32.ofNat 68) (List.replicate 68 (Value.int (0 : Int32))) (.int (0 : Int32))) :
    MF l y58_ jdk_43_method_50_code 5 none ws (rM 4 0 0 60) #[(.ref a1), (.int (0 : Int32)), (.ref b), (.int (0 : Int32)), (.int (17 : Int32))] Z h0 (Q_rm_linf Z a1 b k1 kb fm h0 n0) := by
  refine own_bodyF n0 (plainFor_of_name pnj_31) (fun m => efj_rm_linf m a1 b) ?_
  intro p e s m below meth c s₁ S0 hx hby hml hZ hown hnm hret hlk X0 e0 hh N0 hK go0
  have go1 : Go p e below s₁ (mkF m 6 #[.val (.ref a1), .val (.int (0 : Int32)), .val (.ref b), .val (.int (0 : Int32)), .val (.int (17 : Int32))] [(.int (17 : Int32)), (.int (0 : Int32)), (.ref b), (.int (0 : Int32)), (.ref a1)]) S0 := by
    intro tt kt
    refine go0 tt ?_
    refine XS.aloadN X0.here hx rfl (hb hby d31_0) rfl rfl ?_
    refine XS.iloadN X0.here hx rfl (hb hby d31_1) rfl ?_
    refine XS.aloadN X0.here hx rfl (hb hby d31_2) rfl rfl ?_
    refine XS.iloadN X0.here hx rfl (hb hby d31_3) rfl ?_
    refine XS.iload X0.here hx rfl (hb hby d31_4) rfl ?_
    exact kt
  obtain ⟨_, _, ⟨T2, L2, k2, n2⟩, -, X2, ⟨Lc2, hQ2, l2, y2, z2⟩, st2⟩ := Jvm.LawKit.callS X0 hx (y := y48_) hown (mvT hZ (wi hw 306 rfl)) (mvT hZ (wi hw 307 rfl)) (mvT hZ (wi hw 49 rfl)) (mvT hZ (wi hw 308 rfl)) (by decide) (backOf (W := 0) (rm_uinf l Z a0 hw [] a1 b k1 kb fm h0 n0 Z0 O0 hn0 S_AD S_HI S_LO S_SI rf g_b ne_a1_b V_a1 V_b) hZ (wi hw 308 rfl) (wi hw 49 rfl) (by decide) (by decide)) (g := (mkF m 6 #[.val (.ref a1), .val (.int (0 : Int32)), .val (.ref b), .val (.int (0 : Int32)), .val (.int (17 : Int32))] [(.int (17 : Int32)), (.int (0 : Int32)), (.ref b), (.int (0 : Int32)), (.ref a1)])) rfl (by rw [hml]; rfl) (argsL := [(.ref a1), (.int (0 : Int32)), (.ref b), (.int (0 : Int32)), (.int (17 : Int32))]) (rest := []) (lenOf pd15_ rfl) rfl (by show 2 * 0 + _ ≤ _; exact Nat.le_of_eq rfl) (hb hby d31_6) (fun _ _ => ⟨rfl, e0, (by decide : 0 + 0 ≤ _), (by decide : 0 + 0 ≤ _)⟩)
  dsimp only [Pt.U, Pt.locs, Pt.cells, Pt.slots] at X2 l2 y2 z2 st2 hQ2
  subst l2 y2 z2
  obtain ⟨rfl, N2q, K2, V2⟩ := hQ2
  have N2 := Fr.app N0 N2q
  have go3 : Go p e below T2 (mkF m 9 #[.val (.ref a1), .val (.int (0 : Int32)), .val (.ref b), .val (.int (0 : Int32)), .val (.int (17 : Int32))] []) S0 := fun t kt => go1 t (st2 _ kt)
  exact own_leaveV X2 hx hret hlk (hb hby d31_9) go3 rfl (⟨rfl, N2, K2, V2⟩) (by decide) (by decide)
theorem pnj_32 : plainName "java/lang/AbstractStringBuilder" = true := by first | (simp [plainName, overriddenIn]; done) | decide +kernel
theorem efj_rm_isl0 (m : MethodId) (b : Addr) : entryFrame m #[(.ref b)] 1 = mkF m 0 #[.val (.ref b)] [] := by first | (simp [entryFrame, mkF, argsToLocals, Value.category]; done) | rfl
theorem d32_0 : Dc c48 0 (.getstatic 18) 3 := by decide +kernel
theorem d32_3 : Dc c48 3 (.ifCond .eq 14) 3 := by decide +kernel
theorem d32_6 : Dc c48 6 (.aload_n 0) 1 := by decide +kernel
theorem d32_7 : Dc c48 7 (.getfield 22) 3 := by decide +kernel
theorem d32_10 : Dc c48 10 (.ifCond .ne 7) 3 := by decide +kernel
theorem d32_13 : Dc c48 13 (.iconst 1) 1 := by decide +kernel
theorem d32_14 : Dc c48 14 (.goto 4) 3 := by decide +kernel
theorem d32_18 : Dc c48 18 (.ireturn) 1 := by decide +kernel
def Q_rm_isl0 (Z : State) (b : Addr) (zc : Int32) (h0 : Heap) (n0 : Nat) (v : Option Value) (h : Heap) (L : List Loc) : Prop := v = some (.int (1 : Int32)) ∧ Fr n0 L ∧ h = h0
theorem rm_isl0 (l : Launch) (Z : State) (a0 : Array Value) (hw : Hw a0 Z) (ws : List Jvm.Cond) (b : Addr) (zc : Int32) (h0 : Heap) (n0 : Nat) (Z0 : n0 ≤ h0.size) (O0 : Ext Z.heap h0) (hn0 : Z.heap.size ≤ n0) (S_CS : Sta Z Z.heap "java/lang/String" "COMPACT_STRINGS" "Z" (.int zc)) (P5 : ¬ zc = (0 : Int32)) (F_coder_b : Fld Z h0 b "java/lang/AbstractStringBuilder" "coder" "B" (.int (0 : Int32))) :
    MF l y2_ jdk_68_method_68_code 1 (some .boolean) ws (rM 0 0 0 0) #[(.ref b)] Z h0 (Q_rm_isl0 Z b zc h0 n0) := by
  refine own_bodyF n0 (plainFor_of_name pnj_32) (fun m => efj_rm_isl0 m b) ?_
  intro p e s m below meth c s₁ S0 hx hby hml hZ hown hnm hret hlk X0 e0 hh N0 hK go0
  have S_N := S_CS.ext O0
  obtain ⟨T1, X1, e1, st1⟩ := getS2 X0 hx hZ hown (host := "") (Or.inl (wi hw 77 rfl)) Via.refl e0 S_N (g := (mkF m 0 #[.val (.ref b)] [])) rfl (hb hby d32_0)
  have go2 : Go p e below T1 (mkF m 3 #[.val (.ref b)] [(.int zc)]) S0 := fun t kt => go0 t (st1 _ kt)
  have go3 : Go p e below T1 (mkF m 7 #[.val (.ref b)] [(.ref b)]) S0 := by
    intro tt kt
    refine go2 tt ?_
    refine XS.ifNo X1.here hx rfl (hb hby d32_3) rfl ((if0 _ _).trans (feq P5).1) ?_
    refine XS.aloadN X1.here hx rfl (hb hby d32_6) rfl rfl ?_
    exact kt
  obtain ⟨T4, X4, e4, st4⟩ := getF X1 hx hZ hown (host := "") (Or.inl (wi hw 80 rfl)) Via.refl e1 F_coder_b (g := (mkF m 7 #[.val (.ref b)] [(.ref b)])) rfl rfl (hb hby d32_7)
  have go5 : Go p e below T4 (mkF m 10 #[.val (.ref b)] [(.int (0 : Int32))]) S0 := fun t kt => go3 t (st4 _ kt)
  have go6 : Go p e below T4 (mkF m 18 #[.val (.ref b)] [(.int (1 : Int32))]) S0 := by
    intro tt kt
    refine go5 tt ?_
    refine XS.ifNo X4.here hx rfl (hb hby d32_10) rfl ((if0 _ _).trans (teq rfl).2) ?_
    refine XS.iconst X4.here hx rfl (hb hby d32_13) ?_
    refine XS.goto X4.here hx rfl (pc0 := 14) (pc' := 18) rfl (hb hby d32_14) (by decide) (by decide) ?_
    exact kt
  exact own_leaveN (t := .boolean) (by simp) X4 hx hret hlk (hb hby d32_18) go6 e4 (⟨rfl, N0, rfl⟩) (by decide) (by decide)
theorem efj_rm_isl1 (m : MethodId) (b : Addr) : entryFrame m #[(.ref b)] 1 = mkF m 0 #[.val (.ref b)] [] := by first | (simp [entryFrame, mkF, argsToLocals, Value.category]; done) | rfl
theorem d32_17 : Dc c48 17 (.iconst 0) 1 := by decide +kernel
def Q_rm_isl1 (Z : State) (b : Addr) (zc : Int32) (h0 : Heap) (n0 : Nat) (v : Option Value) (h : Heap) (L : List Loc) : Prop := v = some (.int (0 : Int32)) ∧ Fr n0 L ∧ h = h0
theorem rm_isl1 (l : Launch) (Z : State) (a0 : Array Value) (hw : Hw a0 Z) (ws : List Jvm.Cond) (b : Addr) (zc : Int32) (h0 : Heap) (n0 : Nat) (Z0 : n0 ≤ h0.size) (O0 : Ext Z.heap h0) (hn0 : Z.heap.size ≤ n0) (S_CS : Sta Z Z.heap "java/lang/String" "COMPACT_STRINGS" "Z" (.int zc)) (P5 : ¬ zc = (0 : Int32)) (F_coder_b : Fld Z h0 b "java/lang/AbstractStringBuilder" "coder" "B" (.int (1 : Int32))) :
    MF l y2_ jdk_68_method_68_code 1 (some .boolean) ws (rM 0 0 0 0) #[(.ref b)] Z h0 (Q_rm_isl1 Z b zc h0 n0) := by
  refine own_bodyF n0 (plainFor_of_name pnj_32) (fun m => efj_rm_isl1 m b) ?_
  intro p e s m below meth c s₁ S0 hx hby hml hZ hown hnm hret hlk X0 e0 hh N0 hK go0
  have S_N := S_CS.ext O0
  obtain ⟨T1, X1, e1, st1⟩ := getS2 X0 hx hZ hown (host := "") (Or.inl (wi hw 77 rfl)) Via.refl e0 S_N (g := (mkF m 0 #[.val (.ref b)] [])) rfl (hb hby d32_0)
  have go2 : Go p e below T1 (mkF m 3 #[.val (.ref b)] [(.int zc)]) S0 := fun t kt => go0 t (st1 _ kt)
  have go3 : Go p e below T1 (mkF m 7 #[.val (.ref b)] [(.ref b)]) S0 := by
    intro tt kt
    refine go2 tt ?_
    refine XS.ifNo X1.here hx rfl (hb hby d32_3) rfl ((if0 _ _).trans (feq P5).1) ?_
    refine XS.aloadN X1.here hx rfl (hb hby d32_6) rfl rfl ?_
    exact kt
  obtain ⟨T4, X4, e4, st4⟩ := getF X1 hx hZ hown (host := "") (Or.inl (wi hw 80 rfl)) Via.refl e1 F_coder_b (g := (mkF m 7 #[.val (.ref b)] [(.ref b)])) rfl rfl (hb hby d32_7)
  have go5 : Go p e below T4 (mkF m 10 #[.val (.ref b)] [(.int (1 : Int32))]) S0 := fun t kt => go3 t (st4 _ kt)
  have go6 : Go p e below T4 (mkF m 18 #[.val (.ref b)] [(.int (0 : Int32))]) S0 := by
    intro tt kt
    refine go5 tt ?_
    refine XS.ifYes X4.here hx rfl (pc0 := 10) (pc' := 17) rfl (hb hby d32_10) rfl ((if0 _ _).trans (feq (by decide)).2) (by decide) (by decide) ?_
    refine XS.iconst X4.here hx rfl (hb hby d32_17) ?_
    exact kt
  exact own_leaveN (t := .boolean) (by simp) X4 hx hret hlk (hb hby d32_18) go6 e4 (⟨rfl, N0, rfl⟩) (by decide) (by decide)
theorem pnj_33 : plainName "java/lang/AbstractStringBuilder" = true := by first | (simp [plainName, overriddenIn]; done) | decide +kernel
theorem efj_rm_inf (m : MethodId) (b : Addr) : entryFrame m #[(.ref b)] 2 = mkF m 0 #[.val (.ref b), .unset] [] := by first | (simp [entryFrame, mkF, argsToLocals, Value.category]; done) | rfl
theorem d33_0 : Dc c43 0 (.aload_n 0) 1 := by decide +kernel
theorem pd35_ : parseMethodDescriptor "()Z" = some ⟨[], some .boolean⟩ := by decide +kernel
theorem d33_1 : Dc c43 1 (.invokevirtual 83) 3 := by decide +kernel
theorem d33_4 : Dc c43 4 (.ifCond .ne 4) 3 := by decide +kernel
theorem d33_8 : Dc c43 8 (.aload_n 0) 1 := by decide +kernel
theorem d33_9 : Dc c43 9 (.getfield 15) 3 := by decide +kernel
theorem d33_12 : Dc c43 12 (.arraylength) 1 := by decide +kernel
theorem d33_13 : Dc c43 13 (.invokestatic 26) 3 := by decide +kernel
theorem d33_16 : Dc c43 16 (.astore_n 1) 1 := by decide +kernel
theorem d33_17 : Dc c43 17 (.aload_n 0) 1 := by decide +kernel
theorem d33_18 : Dc c43 18 (.getfield 15) 3 := by decide +kernel
theorem d33_21 : Dc c43 21 (.iconst 0) 1 := by decide +kernel
theorem d33_22 : Dc c43 22 (.aload_n 1) 1 := by decide +kernel
theorem d33_23 : Dc c43 23 (.iconst 0) 1 := by decide +kernel
theorem d33_24 : Dc c43 24 (.aload_n 0) 1 := by decide +kernel
theorem d33_25 : Dc c43 25 (.getfield 79) 3 := by decide +kernel
theorem d33_28 : Dc c43 28 (.invokestatic 125) 3 := by decide +kernel
theorem d33_31 : Dc c43 31 (.aload_n 0) 1 := by decide +kernel
theorem d33_32 : Dc c43 32 (.aload_n 1) 1 := by decide +kernel
theorem d33_33 : Dc c43 33 (.putfield 15) 3 := by decide +kernel
theorem d33_36 : Dc c43 36 (.aload_n 0) 1 := by decide +kernel
theorem d33_37 : Dc c43 37 (.iconst 1) 1 := by decide +kernel
theorem d33_38 : Dc c43 38 (.putfield 22) 3 := by decide +kernel
theorem d33_41 : Dc c43 41 (.return_) 1 := by decide +kernel
def Q_rm_inf (Z : State) (b : Addr) (u : Addr) (ku : ClassId) (fm : Value) (zc : Int32) (h0 : Heap) (n0 : Nat) (v : Option Value) (h : Heap) (L : List Loc) : Prop := ∃ (r : Addr) (kr : ClassId), v = none ∧ Fr n0 L ∧ Keep h0 h [b] ∧ Exa Z h b "java/lang/StringBuilder" ∧ Fld Z h b "java/lang/AbstractStringBuilder" "value" "[B" (.ref r) ∧ Fld Z h b "java/lang/AbstractStringBuilder" "coder" "B" (.int (1 : Int32)) ∧ Fld Z h b "java/lang/AbstractStringBuilder" "count" "I" (.int (17 : Int32)) ∧ Fld Z h b "java/lang/AbstractStringBuilder" "maybeLatin1" "Z" (.int (0 : Int32)) ∧ Arv Z h r kr .byte (Int32.ofNat 68) own_L68 (.int (0 : Int32)) ∧ h0.size ≤ r
theorem rm_inf (l : Launch) (Z : State) (a0 : Array Value) (hw : Hw a0 Z) (ws : List Jvm.Cond) (b : Addr) (u : Addr) (ku : ClassId) (fm : Value) (zc : Int32) (h0 : Heap) (n0 : Nat) (Z0 : n0 ≤ h0.size) (O0 : Ext Z.heap h0) (hn0 : Z.heap.size ≤ n0) (S_CS : Sta Z Z.heap "java/lang/String" "COMPACT_STRINGS" "Z" (.int zc)) (P5 : ¬ zc = (0 : Int32)) (S_AD : Sta Z Z.heap "java/lang/StringUTF16" "$assertionsDisabled" "Z" (.int (1 : Int32))) (S_HI : Sta Z Z.heap "java/lang/StringUTF16" "HI_BYTE_SHIFT" "I" (.int (0 : Int32))) (S_LO : Sta Z Z.heap "java/lang/StringUTF16" "LO_BYTE_SHIFT" "I" (.int (8 : Int32))) (S_SI : Sta Z Z.heap "jdk/internal/util/Preconditions" "SIOOBE_FORMATTER" "Ljava/util/function/BiFunction;" fm) (rf : fm.isRef = true) (E_b : Exa Z h0 b "java/lang/StringBuilder") (F_value_b : Fld Z h0 b "java/lang/AbstractStringBuilder" "value" "[B" (.ref u)) (F_coder_b : Fld Z h0 b "java/lang/AbstractStringBuilder" "coder" "B" (.int (0 : Int32))) (F_count_b : Fld Z h0 b "java/lang/AbstractStringBuilder" "count" "I" (.int (17 : Int32))) (F_maybeLatin1_b : Fld Z h0 b "java/lang/AbstractStringBuilder" "maybeLatin1" "Z" (.int (0 : Int32))) (g_b : n0 ≤ b) (V_u : Arv Z h0 u ku .byte (34 : Int32) own_L34 (.int (0 : Int32))) :
    MF l y49_ jdk_68_method_11_code 2 none ws (rM 5 1 68 76) #[(.ref b)] Z h0 (Q_rm_inf Z b u ku fm zc h0 n0) := by
  refine own_bodyF n0 (plainFor_of_name pnj_33) (fun m => efj_rm_inf m b) ?_
  intro p e s m below meth c s₁ S0 hx hby hml hZ hown hnm hret hlk X0 e0 hh N0 hK go0
  have K0 : Keep h0 h0 [b] := Keep.refl h0 [b]
  have go1 : Go p e below s₁ (mkF m 1 #[.val (.ref b), .unset] [(.ref b)]) S0 := by
    intro tt kt
    refine go0 tt ?_
    refine XS.aloadN X0.here hx rfl (hb hby d33_0) rfl rfl ?_
    exact kt
  obtain ⟨cq2, kq2, q2a, q2b, q2c⟩ := isOf hZ e0 E_b
  obtain ⟨_, _, ⟨T2, L2, k2, n2⟩, -, X2, ⟨Lc2, hQ2, l2, y2, z2⟩, st2⟩ := X0.virtualBack hx (y := y2_) (z := y2_) hown (mvT hZ (wi hw 277 rfl)) (mvT hZ (wi hw 179 rfl)) (notFace_of_selects (args := #[]) (mvT hZ (wi hw 181 rfl))) (mvT hZ (wi hw 181 rfl)) (mvT hZ (wi hw 180 rfl)) (by decide) (backOf (W := 0) (rm_isl0 l Z a0 hw [] b zc h0 n0 Z0 (oO O0 K0 hn0 (allS g_b all0)) hn0 S_CS P5 F_coder_b) hZ (wi hw 182 rfl) (wi hw 74 rfl) (by decide) (by decide)) q2a q2c (g := (mkF m 1 #[.val (.ref b), .unset] [(.ref b)])) rfl (by rw [hml]; rfl) (Steps.refl _) (argsL := []) (rest := []) (lenOf pd35_ rfl) rfl (by show 2 * 0 + _ ≤ _; exact Nat.le_of_eq rfl) (hb hby d33_1) (fun _ _ => ⟨rfl, e0, (by decide : 0 + 0 ≤ _), (by decide : 0 + 0 ≤ _)⟩)
  dsimp only [Pt.U, Pt.locs, Pt.cells, Pt.slots] at X2 l2 y2 z2 st2 hQ2
  subst l2 y2 z2
  obtain ⟨rfl, N2q, g2⟩ := hQ2
  have K0 := own_ks g2 K0
  rw [← g2] at E_b F_value_b F_coder_b F_count_b F_maybeLatin1_b V_u Z0
  have N2 := Fr.app N0 N2q
  have go3 : Go p e below T2 (mkF m 4 #[.val (.ref b), .unset] [(.int (1 : Int32))]) S0 := fun t kt => go1 t (st2.trans kt)
  have go4 : Go p e below T2 (mkF m 9 #[.val (.ref b), .unset] [(.ref b)]) S0 := by
    intro tt kt
    refine go3 tt ?_
    refine XS.ifYes X2.here hx rfl (pc0 := 4) (pc' := 8) rfl (hb hby d33_4) rfl ((if0 _ _).trans (feq (by decide)).2) (by decide) (by decide) ?_
    refine XS.aloadN X2.here hx rfl (hb hby d33_8) rfl rfl ?_
    exact kt
  obtain ⟨T5, X5, e5, st5⟩ := getF X2 hx hZ hown (host := "") (Or.inl (wi hw 78 rfl)) Via.refl rfl F_value_b (g := (mkF m 9 #[.val (.ref b), .unset] [(.ref b)])) rfl rfl (hb hby d33_9)
  have go6 : Go p e below T5 (mkF m 12 #[.val (.ref b), .unset] [(.ref u)]) S0 := fun t kt => go4 t (st5 _ kt)
  obtain ⟨cl7, Ar7, q7, S7, N7, H7, G7⟩ := id V_u
  have go8 : Go p e below T5 (mkF m 13 #[.val (.ref b), .unset] [(.int (34 : Int32))]) S0 := by
    intro tt kt
    refine go6 tt ?_
    refine X5.arraylength hx (by rw [e5]; exact Ar7.1) (State.isArrayOf_alike hZ.alike Ar7.2.1) (g := (mkF m 12 #[.val (.ref b), .unset] [(.ref u)])) rfl rfl (hb hby d33_12) _ ?_
    rw [len_of S7 N7]
    exact kt
  obtain ⟨_, _, ⟨T9, L9, k9, n9⟩, -, X9, ⟨Lc9, hQ9, l9, y9, z9⟩, st9⟩ := Jvm.LawKit.callS X5 hx (y := y32_) hown (mvT hZ (wi hw 302 rfl)) (mvT hZ (wi hw 282 rfl)) (mvT hZ (wi hw 49 rfl)) (mvT hZ (wi hw 283 rfl)) (by decide) (backOf (W := 0) (rm_nbf l Z a0 hw [] 34 T2.heap n0 Z0 (by decide)) hZ (wi hw 283 rfl) (wi hw 49 rfl) (by decide) (by decide)) (g := (mkF m 13 #[.val (.ref b), .unset] [(.int (34 : Int32))])) rfl (by rw [hml]; rfl) (argsL := [(.int (34 : Int32))]) (rest := []) (lenOf pd29_ rfl) rfl (by show 2 * 0 + _ ≤ _; exact Nat.le_of_eq rfl) (hb hby d33_13) (fun _ _ => ⟨rfl, e5, (by decide : 0 + 1 ≤ _), (by decide : 0 + 68 ≤ _)⟩)
  dsimp only [Pt.U, Pt.locs, Pt.cells, Pt.slots] at X9 l9 y9 z9 st9 hQ9
  subst l9 y9 z9
  obtain ⟨r, kr, rfl, N9q, E9, g_r, sz_r, V_r⟩ := hQ9
  have ne_r_b : r ≠ b := oL E_b.lt sz_r
  have ne_u_r : u ≠ r := oR V_u.lt sz_r
  have ne_b_r : b ≠ r := ne_r_b.symm
  have sz_r := Nat.le_trans K0.1 sz_r
  have E_b := E_b.ext E9
  have F_value_b := F_value_b.ext E9
  have F_coder_b := F_coder_b.ext E9
  have F_count_b := F_count_b.ext E9
  have F_maybeLatin1_b := F_maybeLatin1_b.ext E9
  have V_u := V_u.ext E9
  have Z0 := Nat.le_trans Z0 E9.1
  have K0 := K0.ext E9
  have N9 := Fr.app N2 N9q
  have go10 : Go p e below T9 (mkF m 16 #[.val (.ref b), .unset] [(.ref r)]) S0 := fun t kt => go8 t (st9 _ kt)
  have V_r : Arv Z T9.heap r kr .byte (Int32.ofNat 68) (List.replicate 68 (Value.int (0 : Int32))) (.int (0 : Int32)) := V_r
  have go11 : Go p e below T9 (mkF m 18 #[.val (.ref b), .val (.ref r)] [(.ref b)]) S0 := by
    intro tt kt
    refine go10 tt ?_
    refine XS.astoreN X9.here hx rfl (hb hby d33_16) rfl rfl (l' := #[.val (.ref b), .val (.ref r)]) rfl ?_
    refine XS.aloadN X9.here hx rfl (hb hby d33_17) rfl rfl ?_
    exact kt
  obtain ⟨T12, X12, e12, st12⟩ := getF X9 hx hZ hown (host := "") (Or.inl (wi hw 78 rfl)) Via.refl rfl F_value_b (g := (mkF m 18 #[.val (.ref b), .val (.ref r)] [(.ref b)])) rfl rfl (hb hby d33_18)
  have go13 : Go p e below T12 (mkF m 21 #[.val (.ref b), .val (.ref r)] [(.ref u)]) S0 := fun t kt => go11 t (st12 _ kt)
  have go14 : Go p e below T12 (mkF m 25 #[.val (.ref b), .val (.ref r)] [(.ref b), (.int (0 : Int32)), (.ref r), (.int (0 : Int32)), (.ref u)]) S0 := by
    intro tt kt
    refine go13 tt ?_
    refine XS.iconst X12.here hx rfl (hb hby d33_21) ?_
    refine XS.aloadN X12.here hx rfl (hb hby d33_22) rfl rfl ?_
    refine XS.iconst X12.here hx rfl (hb hby d33_23) ?_
    refine XS.aloadN X12.here hx rfl (hb hby d33_24) rfl rfl ?_
    exact kt
  obtain ⟨T15, X15, e15, st15⟩ := getF X12 hx hZ hown (host := "") (Or.inl (wi hw 103 rfl)) Via.refl e12 F_count_b (g := (mkF m 25 #[.val (.ref b), .val (.ref r)] [(.ref b), (.int (0 : Int32)), (.ref r), (.int (0 : Int32)), (.ref u)])) rfl rfl (hb hby d33_25)
  have go16 : Go p e below T15 (mkF m 28 #[.val (.ref b), .val (.ref r)] [(.int (17 : Int32)), (.int (0 : Int32)), (.ref r), (.int (0 : Int32)), (.ref u)]) S0 := fun t kt => go14 t (st15 _ kt)
  obtain ⟨_, _, ⟨T17, L17, k17, n17⟩, -, X17, ⟨Lc17, hQ17, l17, y17, z17⟩, st17⟩ := Jvm.LawKit.callS X15 hx (y := y58_) hown (mvT hZ (wi hw 303 rfl)) (mvT hZ (wi hw 304 rfl)) (mvT hZ (wi hw 37 rfl)) (mvT hZ (wi hw 305 rfl)) (by decide) (backOf (W := 0) (rm_linf l Z a0 hw [] u r ku kr fm T9.heap n0 Z0 (oO O0 K0 hn0 (allS g_b all0)) hn0 S_AD S_HI S_LO S_SI rf g_r ne_u_r V_u V_r) hZ (wi hw 305 rfl) (wi hw 37 rfl) (by decide) (by decide)) (g := (mkF m 28 #[.val (.ref b), .val (.ref r)] [(.int (17 : Int32)), (.int (0 : Int32)), (.ref r), (.int (0 : Int32)), (.ref u)])) rfl (by rw [hml]; rfl) (argsL := [(.ref u), (.int (0 : Int32)), (.ref r), (.int (0 : Int32)), (.int (17 : Int32))]) (rest := []) (lenOf pd15_ rfl) rfl (by show 2 * 0 + _ ≤ _; exact Nat.le_of_eq rfl) (hb hby d33_28) (fun _ _ => ⟨rfl, e15, (by decide : 1 + 0 ≤ _), (by decide : 68 + 0 ≤ _)⟩)
  dsimp only [Pt.U, Pt.locs, Pt.cells, Pt.slots] at X17 l17 y17 z17 st17 hQ17
  subst l17 y17 z17
  obtain ⟨rfl, N17q, K17, V_r⟩ := hQ17
  have E_b := E_b.keep K17
  have F_value_b := F_value_b.keep K17 (ninS ne_b_r nin0)
  have F_coder_b := F_coder_b.keep K17 (ninS ne_b_r nin0)
  have F_count_b := F_count_b.keep K17 (ninS ne_b_r nin0)
  have F_maybeLatin1_b := F_maybeLatin1_b.keep K17 (ninS ne_b_r nin0)
  have K0 := K0.trans K17 (allS (Or.inr sz_r) all0)
  have Z0 := Nat.le_trans Z0 K17.1
  have N17 := Fr.app N9 N17q
  have go18 : Go p e below T17 (mkF m 31 #[.val (.ref b), .val (.ref r)] []) S0 := fun t kt => go16 t (st17 _ kt)
  have go19 : Go p e below T17 (mkF m 33 #[.val (.ref b), .val (.ref r)] [(.ref r), (.ref b)]) S0 := by
    intro tt kt
    refine go18 tt ?_
    refine XS.aloadN X17.here hx rfl (hb hby d33_31) rfl rfl ?_
    refine XS.aloadN X17.here hx rfl (hb hby d33_32) rfl rfl ?_
    exact kt
  obtain ⟨T20, h20, X20, e20, W20, st20⟩ := putF X17 hx hZ hown (host := "") (Or.inl (wi hw 78 rfl)) Via.refl rfl F_value_b E_b (Or.inl (wi hw 79 rfl)) (wi hw 65 rfl) (ty := (.array .byte)) (by decide) rfl rfl (g := (mkF m 33 #[.val (.ref b), .val (.ref r)] [(.ref r), (.ref b)])) rfl rfl (hb hby d33_33)
  have E_b := E_b.wr W20
  have F_coder_b := F_coder_b.other W20 (Or.inr (slot_ne (Or.inl (wi hw 81 rfl)) (Or.inl (wi hw 79 rfl)) (by decide) (t := .byte) (t' := (.array .byte)) (by decide) (by decide)))
  have F_count_b := F_count_b.other W20 (Or.inr (slot_ne (Or.inl (wi hw 104 rfl)) (Or.inl (wi hw 79 rfl)) (by decide) (t := .int) (t' := (.array .byte)) (by decide) (by decide)))
  have F_maybeLatin1_b := F_maybeLatin1_b.other W20 (Or.inr (slot_ne (Or.inl (wi hw 322 rfl)) (Or.inl (wi hw 79 rfl)) (by decide) (t := .boolean) (t' := (.array .byte)) (by decide) (by decide)))
  have V_r := V_r.other W20 ne_r_b
  have F_value_b := F_value_b.same W20
  have Z0 := Nat.le_trans Z0 (Keep.of_wr W20).1
  have K0 := K0.wr W20 (Or.inl (List.mem_of_getElem? (i := 0) rfl))
  have N20r := Fr.snoc X20 N17 g_b
  have go21 : Go p e below T20 (mkF m 36 #[.val (.ref b), .val (.ref r)] []) S0 := fun t kt => go19 t (st20 _ kt)
  have go22 : Go p e below T20 (mkF m 38 #[.val (.ref b), .val (.ref r)] [(.int (1 : Int32)), (.ref b)]) S0 := by
    intro tt kt
    refine go21 tt ?_
    refine XS.aloadN X20.here hx rfl (hb hby d33_36) rfl rfl ?_
    refine XS.iconst X20.here hx rfl (hb hby d33_37) ?_
    exact kt
  obtain ⟨T23, h23, X23, e23, W23, st23⟩ := putFN X20 hx hZ hown (wi hw 80 rfl) Via.refl e20 F_coder_b E_b (Or.inl (wi hw 81 rfl)) (wi hw 65 rfl) (ty := .byte) (v' := (.int (1 : Int32))) (by decide) rfl rfl (g := (mkF m 38 #[.val (.ref b), .val (.ref r)] [(.int (1 : Int32)), (.ref b)])) rfl rfl (hb hby d33_38)
  have E_b := E_b.wr W23
  have F_value_b := F_value_b.other W23 (Or.inr (slot_ne (Or.inl (wi hw 79 rfl)) (Or.inl (wi hw 81 rfl)) (by decide) (t := (.array .byte)) (t' := .byte) (by decide) (by decide)))
  have F_count_b := F_count_b.other W23 (Or.inr (slot_ne (Or.inl (wi hw 104 rfl)) (Or.inl (wi hw 81 rfl)) (by decide) (t := .int) (t' := .byte) (by decide) (by decide)))
  have F_maybeLatin1_b := F_maybeLatin1_b.other W23 (Or.inr (slot_ne (Or.inl (wi hw 322 rfl)) (Or.inl (wi hw 81 rfl)) (by decide) (t := .boolean) (t' := .byte) (by decide) (by decide)))
  have V_r := V_r.other W23 ne_r_b
  have F_coder_b := F_coder_b.same W23
  have Z0 := Nat.le_trans Z0 (Keep.of_wr W23).1
  have K0 := K0.wr W23 (Or.inl (List.mem_of_getElem? (i := 0) rfl))
  have N23r := Fr.snoc X23 N20r g_b
  have go24 : Go p e below T23 (mkF m 41 #[.val (.ref b), .val (.ref r)] []) S0 := fun t kt => go22 t (st23 _ kt)
  exact own_leaveV X23 hx hret hlk (hb hby d33_41) go24 e23 (⟨r, kr, rfl, N23r, K0, E_b, F_value_b, F_coder_b, F_count_b, F_maybeLatin1_b, V_r, sz_r⟩) (by decide) (by decide)
theorem efj_rm_inn1 (m : MethodId) (b : Addr) (a2 : Addr) : entryFrame m #[(.ref b), (.ref a2)] 2 = mkF m 0 #[.val (.ref b), .val (.ref a2)] [] := by first | (simp [entryFrame, mkF, argsToLocals, Value.category]; done) | rfl
theorem d23_17 : Dc c50 17 (.aload_n 0) 1 := by decide +kernel
theorem pd36_ : parseMethodDescriptor "()V" = some ⟨[], none⟩ := by decide +kernel
theorem d23_18 : Dc c50 18 (.invokevirtual 195) 3 := by decide +kernel
def Q_rm_inn1 (Z : State) (b : Addr) (a2 : Addr) (u : Addr) (ku : ClassId) (fm : Value) (zc : Int32) (h0 : Heap) (n0 : Nat) (v : Option Value) (h : Heap) (L : List Loc) : Prop := ∃ (r : Addr) (kr : ClassId), v = none ∧ Fr n0 L ∧ Keep h0 h [b] ∧ Exa Z h b "java/lang/StringBuilder" ∧ Fld Z h b "java/lang/AbstractStringBuilder" "value" "[B" (.ref r) ∧ Fld Z h b "java/lang/AbstractStringBuilder" "coder" "B" (.int (1 : Int32)) ∧ Fld Z h b "java/lang/AbstractStringBuilder" "count" "I" (.int (17 : Int32)) ∧ Fld Z h b "java/lang/AbstractStringBuilder" "maybeLatin1" "Z" (.int (0 : Int32)) ∧ Arv Z h r kr .byte (Int32.ofNat 68) own_L68 (.int (0 : Int32)) ∧ h0.size ≤ r
theorem rm_inn1 (l : Launch) (Z : State) (a0 : Array Value) (hw : Hw a0 Z) (ws : List Jvm.Cond) (b : Addr) (a2 : Addr) (u : Addr) (ku : ClassId) (fm : Value) (zc : Int32) (h0 : Heap) (n0 : Nat) (Z0 : n0 ≤ h0.size) (O0 : Ext Z.heap h0) (hn0 : Z.heap.size ≤ n0) (S_CS : Sta Z Z.heap "java/lang/String" "COMPACT_STRINGS" "Z" (.int zc)) (P5 : ¬ zc = (0 : Int32)) (S_AD : Sta Z Z.heap "java/lang/StringUTF16" "$assertionsDisabled" "Z" (.int (1 : Int32))) (S_HI : Sta Z Z.heap "java/lang/StringUTF16" "HI_BYTE_SHIFT" "I" (.int (0 : Int32))) (S_LO : Sta Z Z.heap "java/lang/StringUTF16" "LO_BYTE_SHIFT" "I" (.int (8 : Int32))) (S_SI : Sta Z Z.heap "jdk/internal/util/Preconditions" "SIOOBE_FORMATTER" "Ljava/util/function/BiFunction;" fm) (rf : fm.isRef = true) (E_b : Exa Z h0 b "java/lang/StringBuilder") (F_value_b : Fld Z h0 b "java/lang/AbstractStringBuilder" "value" "[B" (.ref u)) (F_coder_b : Fld Z h0 b "java/lang/AbstractStringBuilder" "coder" "B" (.int (0 : Int32))) (F_count_b : Fld Z h0 b "java/lang/AbstractStringBuilder" "count" "I" (.int (17 : Int32))) (F_maybeLatin1_b : Fld Z h0 b "java/lang/AbstractStringBuilder" "maybeLatin1" "Z" (.int (0 : Int32))) (g_b : n0 ≤ b) (V_u : Arv Z h0 u ku .byte (34 : Int32) own_L34 (.int (0 : Int32))) (E_a2 : Exa Z h0 a2 "java/lang/String") (C_a2 : Fld Z h0 a2 "java/lang/String" "coder" "B" (.int (1 : Int32))) :
    MF l y22_ jdk_68_method_71_code 2 none ws (rM 6 1 68 89) #[(.ref b), (.ref a2)] Z h0 (Q_rm_inn1 Z b a2 u ku fm zc h0 n0) := by
  refine own_bodyF n0 (plainFor_of_name pnj_23) (fun m => efj_rm_inn1 m b a2) ?_
  intro p e s m below meth c s₁ S0 hx hby hml hZ hown hnm hret hlk X0 e0 hh N0 hK go0
  have K0 : Keep h0 h0 [b] := Keep.refl h0 [b]
  have S_N := S_CS.ext (oO O0 K0 hn0 (allS g_b all0))
  obtain ⟨T1, X1, e1, st1⟩ := getS2 X0 hx hZ hown (host := "") (Or.inl (wi hw 77 rfl)) Via.refl e0 S_N (g := (mkF m 0 #[.val (.ref b), .val (.ref a2)] [])) rfl (hb hby d23_0)
  have go2 : Go p e below T1 (mkF m 3 #[.val (.ref b), .val (.ref a2)] [(.int zc)]) S0 := fun t kt => go0 t (st1 _ kt)
  have go3 : Go p e below T1 (mkF m 7 #[.val (.ref b), .val (.ref a2)] [(.ref b)]) S0 := by
    intro tt kt
    refine go2 tt ?_
    refine XS.ifNo X1.here hx rfl (hb hby d23_3) rfl ((if0 _ _).trans (feq P5).1) ?_
    refine XS.aloadN X1.here hx rfl (hb hby d23_6) rfl rfl ?_
    exact kt
  obtain ⟨T4, X4, e4, st4⟩ := getF X1 hx hZ hown (host := "") (Or.inl (wi hw 80 rfl)) Via.refl e1 F_coder_b (g := (mkF m 7 #[.val (.ref b), .val (.ref a2)] [(.ref b)])) rfl rfl (hb hby d23_7)
  have go5 : Go p e below T4 (mkF m 10 #[.val (.ref b), .val (.ref a2)] [(.int (0 : Int32))]) S0 := fun t kt => go3 t (st4 _ kt)
  have go6 : Go p e below T4 (mkF m 11 #[.val (.ref b), .val (.ref a2)] [(.ref a2), (.int (0 : Int32))]) S0 := by
    intro tt kt
    refine go5 tt ?_
    refine XS.aloadN X4.here hx rfl (hb hby d23_10) rfl rfl ?_
    exact kt
  obtain ⟨cq7, kq7, q7a, q7b, q7c⟩ := isOf hZ e4 E_a2
  obtain ⟨_, _, ⟨T7, L7, k7, n7⟩, -, X7, ⟨Lc7, hQ7, l7, y7, z7⟩, st7⟩ := X4.virtualBack hx (y := y4_) (z := y4_) hown (mvT hZ (wi hw 146 rfl)) (mvT hZ (wi hw 99 rfl)) (notFace_of_selects (args := #[]) (mvT hZ (wi hw 101 rfl))) (mvT hZ (wi hw 101 rfl)) (mvT hZ (wi hw 100 rfl)) (by decide) (backOf (W := 1) (rm_coder l Z a0 hw [] a2 (1 : Int32) zc h0 n0 Z0 (oO O0 K0 hn0 (allS g_b all0)) hn0 S_CS P5 C_a2 (by decide)) hZ (wi hw 102 rfl) (wi hw 4 rfl) (by decide) (by decide)) q7a q7c (g := (mkF m 11 #[.val (.ref b), .val (.ref a2)] [(.ref a2), (.int (0 : Int32))])) rfl (by rw [hml]; rfl) (Steps.refl _) (argsL := []) (rest := [(.int (0 : Int32))]) (lenOf pd38_ rfl) rfl (by show 2 * 0 + _ ≤ _; exact Nat.le_of_eq rfl) (hb hby d23_11) (fun _ _ => ⟨rfl, e4, (by decide : 0 + 0 ≤ _), (by decide : 0 + 0 ≤ _)⟩)
  dsimp only [Pt.U, Pt.locs, Pt.cells, Pt.slots] at X7 l7 y7 z7 st7 hQ7
  subst l7 y7 z7
  obtain ⟨rfl, N7q, g7⟩ := hQ7
  have K0 := own_ks g7 K0
  rw [← g7] at E_b F_value_b F_coder_b F_count_b F_maybeLatin1_b V_u E_a2 C_a2 Z0
  have N7 := Fr.app N0 N7q
  have go8 : Go p e below T7 (mkF m 14 #[.val (.ref b), .val (.ref a2)] [(.int (1 : Int32)), (.int (0 : Int32))]) S0 := fun t kt => go6 t (st7.trans kt)
  have go9 : Go p e below T7 (mkF m 18 #[.val (.ref b), .val (.ref a2)] [(.ref b)]) S0 := by
    intro tt kt
    refine go8 tt ?_
    refine XS.icmpNo X7.here hx rfl (hb hby d23_14) rfl (feq (by decide)).1 ?_
    refine XS.aloadN X7.here hx rfl (hb hby d23_17) rfl rfl ?_
    exact kt
  obtain ⟨xc10, xk10, xh10, -, -, xs10, -⟩ := id E_b
  obtain ⟨_, _, ⟨T10, L10, k10, n10⟩, -, X10, ⟨Lc10, hQ10, l10, y10, z10⟩, st10⟩ := X7.privateBack hx (y := y49_) hown (mvT hZ (wi hw 297 rfl)) (mvT hZ (wi hw 298 rfl)) (own_selP (args := #[]) (mvT hZ (wi hw 300 rfl)) (Cond.privateMethod_at (args := #[]) (mvT hZ (wi hw 299 rfl))) (mvT hZ (wi hw 298 rfl)) (by decide)) (Cond.privateMethod_at (args := #[]) (mvT hZ (wi hw 299 rfl))) (mvT hZ (wi hw 301 rfl)) (by decide) (backOf (W := 0) (rm_inf l Z a0 hw [] b u ku fm zc T7.heap n0 Z0 (oO O0 K0 hn0 (allS g_b all0)) hn0 S_CS P5 S_AD S_HI S_LO S_SI rf E_b F_value_b F_coder_b F_count_b F_maybeLatin1_b g_b V_u) hZ (wi hw 301 rfl) (wi hw 74 rfl) (by decide) (by decide)) (g := (mkF m 18 #[.val (.ref b), .val (.ref a2)] [(.ref b)])) rfl (by rw [hml]; rfl) (Steps.refl _) (a := b) xh10 (VmData.noStatics_of xs10) (argsL := []) (rest := []) (lenOf pd36_ rfl) rfl (by show 2 * 0 + _ ≤ _; exact Nat.le_of_eq rfl) (hb hby d23_18) (fun _ _ => ⟨rfl, rfl, (by decide : 0 + 1 ≤ _), (by decide : 0 + 68 ≤ _)⟩)
  dsimp only [Pt.U, Pt.locs, Pt.cells, Pt.slots] at X10 l10 y10 z10 st10 hQ10
  subst l10 y10 z10
  obtain ⟨r, kr, rfl, N10q, K10, R10, R10a, R10b, R10c, R10d, V_r, sz_r⟩ := hQ10
  have sz_r := Nat.le_trans K0.1 sz_r
  have K0 := K0.trans K10 (allS (Or.inl (List.mem_cons_self ..)) all0)
  have N10 := Fr.app N7 N10q
  have go11 : Go p e below T10 (mkF m 21 #[.val (.ref b), .val (.ref a2)] []) S0 := fun t kt => go9 t (st10.trans kt)
  exact own_leaveV X10 hx hret hlk (hb hby d23_21) go11 rfl (⟨r, kr, rfl, N10, K0, R10, R10a, R10b, R10c, R10d, V_r, sz_r⟩) (by decide) (by decide)
theorem efj_rm_put1 (m : MethodId) (b : Addr) (a2 : Addr) : entryFrame m #[(.ref b), (.int (17 : Int32)), (.ref a2)] 3 = mkF m 0 #[.val (.ref b), .val (.int (17 : Int32)), .val (.ref a2)] [] := by first | (simp [entryFrame, mkF, argsToLocals, Value.category]; done) | rfl
def Q_rm_put1 (Z : State) (b : Addr) (a2 : Addr) (t : Addr) (kt : ClassId) (u : Addr) (ku : ClassId) (ds : List Value) (fm : Value) (zc : Int32) (h0 : Heap) (n0 : Nat) (v : Option Value) (h : Heap) (L : List Loc) : Prop := ∃ (r : Addr) (kr : ClassId), v = none ∧ Fr n0 L ∧ Keep h0 h [b] ∧ Exa Z h b "java/lang/StringBuilder" ∧ Fld Z h b "java/lang/AbstractStringBuilder" "value" "[B" (.ref r) ∧ Fld Z h b "java/lang/AbstractStringBuilder" "coder" "B" (.int (1 : Int32)) ∧ Fld Z h b "java/lang/AbstractStringBuilder" "count" "I" (.int (17 : Int32)) ∧ Fld Z h b "java/lang/AbstractStringBuilder" "maybeLatin1" "Z" (.int (0 : Int32)) ∧ Arv Z h r kr .byte (Int32.ofNat 68) (own_DU ds) (.int (0 : Int32)) ∧ h0.size ≤ r
theorem rm_put1 (l : Launch) (Z : State) (a0 : Array Value) (hw : Hw a0 Z) (ws : List Jvm.Cond) (b : Addr) (a2 : Addr) (t : Addr) (kt : ClassId) (u : Addr) (ku : ClassId) (ds : List Value) (fm : Value) (zc : Int32) (h0 : Heap) (n0 : Nat) (Z0 : n0 ≤ h0.size) (O0 : Ext Z.heap h0) (hn0 : Z.heap.size ≤ n0) (S_CS : Sta Z Z.heap "java/lang/String" "COMPACT_STRINGS" "Z" (.int zc)) (P5 : ¬ zc = (0 : Int32)) (S_AD : Sta Z Z.heap "java/lang/StringUTF16" "$assertionsDisabled" "Z" (.int (1 : Int32))) (S_HI : Sta Z Z.heap "java/lang/StringUTF16" "HI_BYTE_SHIFT" "I" (.int (0 : Int32))) (S_LO : Sta Z Z.heap "java/lang/StringUTF16" "LO_BYTE_SHIFT" "I" (.int (8 : Int32))) (S_SI : Sta Z Z.heap "jdk/internal/util/Preconditions" "SIOOBE_FORMATTER" "Ljava/util/function/BiFunction;" fm) (rf : fm.isRef = true) (E_b : Exa Z h0 b "java/lang/StringBuilder") (F_value_b : Fld Z h0 b "java/lang/AbstractStringBuilder" "value" "[B" (.ref u)) (F_coder_b : Fld Z h0 b "java/lang/AbstractStringBuilder" "coder" "B" (.int (0 : Int32))) (F_count_b : Fld Z h0 b "java/lang/AbstractStringBuilder" "count" "I" (.int (17 : Int32))) (F_maybeLatin1_b : Fld Z h0 b "java/lang/AbstractStringBuilder" "maybeLatin1" "Z" (.int (0 : Int32))) (E_a2 : Exa Z h0 a2 "java/lang/String") (C_a2 : Fld Z h0 a2 "java/lang/String" "coder" "B" (.int (1 : Int32))) (V_a2 : Fld Z h0 a2 "java/lang/String" "value" "[B" (.ref t)) (A_t : Arv Z h0 t kt .byte (Int32.ofNat ds.length) ds (.int (0 : Int32))) (g_b : n0 ≤ b) (V_u : Arv Z h0 u ku .byte (34 : Int32) own_L34 (.int (0 : Int32))) (ne_a2_b : a2 ≠ b) (ne_t_b : t ≠ b) (hl : ds.length ≤ 6) :
    MF l y9_ jdk_68_method_73_code 3 none ws (rM 7 1 68 102) #[(.ref b), (.int (17 : Int32)), (.ref a2)] Z h0 (Q_rm_put1 Z b a2 t kt u ku ds fm zc h0 n0) := by
  refine own_bodyF n0 (plainFor_of_name pnj_25) (fun m => efj_rm_put1 m b a2) ?_
  intro p e s m below meth c s₁ S0 hx hby hml hZ hown hnm hret hlk X0 e0 hh N0 hK go0
  have K0 : Keep h0 h0 [b] := Keep.refl h0 [b]
  have lt_t := A_t.lt
  have lt_a2 := E_a2.lt
  have lt_b := E_b.lt
  have go1 : Go p e below s₁ (mkF m 2 #[.val (.ref b), .val (.int (17 : Int32)), .val (.ref a2)] [(.ref a2), (.ref b)]) S0 := by
    intro tt kt
    refine go0 tt ?_
    refine XS.aloadN X0.here hx rfl (hb hby d25_0) rfl rfl ?_
    refine XS.aloadN X0.here hx rfl (hb hby d25_1) rfl rfl ?_
    exact kt
  obtain ⟨xc2, xk2, xh2, -, -, xs2, -⟩ := id E_b
  obtain ⟨_, _, ⟨T2, L2, k2, n2⟩, -, X2, ⟨Lc2, hQ2, l2, y2, z2⟩, st2⟩ := X0.privateBack hx (y := y22_) hown (mvT hZ (wi hw 141 rfl)) (mvT hZ (wi hw 142 rfl)) (own_selP (args := #[]) (mvT hZ (wi hw 144 rfl)) (Cond.privateMethod_at (args := #[]) (mvT hZ (wi hw 143 rfl))) (mvT hZ (wi hw 142 rfl)) (by decide)) (Cond.privateMethod_at (args := #[]) (mvT hZ (wi hw 143 rfl))) (mvT hZ (wi hw 145 rfl)) (by decide) (backOf (W := 0) (rm_inn1 l Z a0 hw [] b a2 u ku fm zc h0 n0 Z0 (oO O0 K0 hn0 (allS g_b all0)) hn0 S_CS P5 S_AD S_HI S_LO S_SI rf E_b F_value_b F_coder_b F_count_b F_maybeLatin1_b g_b V_u E_a2 C_a2) hZ (wi hw 145 rfl) (wi hw 74 rfl) (by decide) (by decide)) (g := (mkF m 2 #[.val (.ref b), .val (.int (17 : Int32)), .val (.ref a2)] [(.ref a2), (.ref b)])) rfl (by rw [hml]; rfl) (Steps.refl _) (a := b) (by rw [e0]; exact xh2) (VmData.noStatics_of xs2) (argsL := [(.ref a2)]) (rest := []) (lenOf pd11_ rfl) rfl (by show 2 * 0 + _ ≤ _; exact Nat.le_of_eq rfl) (hb hby d25_2) (fun _ _ => ⟨rfl, e0, (by decide : 0 + 1 ≤ _), (by decide : 0 + 68 ≤ _)⟩)
  dsimp only [Pt.U, Pt.locs, Pt.cells, Pt.slots] at X2 l2 y2 z2 st2 hQ2
  subst l2 y2 z2
  obtain ⟨r, kr, rfl, N2q, K2, E_b, F_value_b, F_coder_b, F_count_b, F_maybeLatin1_b, V_r, sz_r⟩ := hQ2
  have E_a2 := E_a2.keep K2
  have C_a2 := C_a2.keep K2 (ninS ne_a2_b nin0)
  have V_a2 := V_a2.keep K2 (ninS ne_a2_b nin0)
  have A_t := A_t.keep K2 (ninS ne_t_b nin0)
  have ne_t_r := oR lt_t sz_r
  have ne_a2_r := oR lt_a2 sz_r
  have ne_b_r := oR lt_b sz_r
  have g_r : n0 ≤ r := Nat.le_trans Z0 sz_r
  have K0 := K0.trans K2 (allS (Or.inl (List.mem_cons_self ..)) all0)
  have Z0 := Nat.le_trans Z0 K2.1
  have V_r : Arv Z T2.heap r kr .byte (Int32.ofNat own_L68.length) own_L68 (.int (0 : Int32)) := by rw [own_l68]; exact V_r
  have N2 := Fr.app N0 N2q
  have go3 : Go p e below T2 (mkF m 5 #[.val (.ref b), .val (.int (17 : Int32)), .val (.ref a2)] []) S0 := fun t kt => go1 t (st2.trans kt)
  have go4 : Go p e below T2 (mkF m 7 #[.val (.ref b), .val (.int (17 : Int32)), .val (.ref a2)] [(.ref b), (.ref a2)]) S0 := by
    intro tt kt
    refine go3 tt ?_
    refine XS.aloadN X2.here hx rfl (hb hby d25_5) rfl rfl ?_
    refine XS.aloadN X2.here hx rfl (hb hby d25_6) rfl rfl ?_
    exact kt
  obtain ⟨T5, X5, e5, st5⟩ := getF X2 hx hZ hown (host := "") (Or.inl (wi hw 78 rfl)) Via.refl rfl F_value_b (g := (mkF m 7 #[.val (.ref b), .val (.int (17 : Int32)), .val (.ref a2)] [(.ref b), (.ref a2)])) rfl rfl (hb hby d25_7)
  have go6 : Go p e below T5 (mkF m 10 #[.val (.ref b), .val (.int (17 : Int32)), .val (.ref a2)] [(.ref r), (.ref a2)]) S0 := fun t kt => go4 t (st5 _ kt)
  have go7 : Go p e below T5 (mkF m 12 #[.val (.ref b), .val (.int (17 : Int32)), .val (.ref a2)] [(.ref b), (.int (17 : Int32)), (.ref r), (.ref a2)]) S0 := by
    intro tt kt
    refine go6 tt ?_
    refine XS.iloadN X5.here hx rfl (hb hby d25_10) rfl ?_
    refine XS.aloadN X5.here hx rfl (hb hby d25_11) rfl rfl ?_
    exact kt
  obtain ⟨T8, X8, e8, st8⟩ := getF X5 hx hZ hown (host := "") (Or.inl (wi hw 80 rfl)) Via.refl e5 F_coder_b (g := (mkF m 12 #[.val (.ref b), .val (.int (17 : Int32)), .val (.ref a2)] [(.ref b), (.int (17 : Int32)), (.ref r), (.ref a2)])) rfl rfl (hb hby d25_12)
  have go9 : Go p e below T8 (mkF m 15 #[.val (.ref b), .val (.int (17 : Int32)), .val (.ref a2)] [(.int (1 : Int32)), (.int (17 : Int32)), (.ref r), (.ref a2)]) S0 := fun t kt => go7 t (st8 _ kt)
  obtain ⟨cq10, kq10, q10a, q10b, q10c⟩ := isOf hZ e8 E_a2
  obtain ⟨_, _, ⟨T10, L10, k10, n10⟩, -, X10, ⟨Lc10, hQ10, l10, y10, z10⟩, st10⟩ := X8.virtualBack hx (y := y11_) (z := y11_) hown (mvT hZ (wi hw 147 rfl)) (mvT hZ (wi hw 148 rfl)) (notFace_of_selects (args := #[]) (mvT hZ (wi hw 150 rfl))) (mvT hZ (wi hw 150 rfl)) (mvT hZ (wi hw 149 rfl)) (by decide) (backOf (W := 0) (rm_getB l Z a0 hw [] a2 r (17 : Int32) (1 : Int32) t kt kr ds own_L68 34 zc T2.heap n0 Z0 (oO O0 K0 hn0 (allS g_b all0)) hn0 S_CS P5 E_a2 C_a2 V_a2 A_t (by decide) V_r ne_t_r ne_a2_r g_r (by decide) (by rw [own_l68]; omega) (by rw [own_l68]; decide)) hZ (wi hw 151 rfl) (wi hw 4 rfl) (by decide) (by decide)) q10a q10c (g := (mkF m 15 #[.val (.ref b), .val (.int (17 : Int32)), .val (.ref a2)] [(.int (1 : Int32)), (.int (17 : Int32)), (.ref r), (.ref a2)])) rfl (by rw [hml]; rfl) (Steps.refl _) (argsL := [(.ref r), (.int (17 : Int32)), (.int (1 : Int32))]) (rest := []) (lenOf pd21_ rfl) rfl (by show 2 * 0 + _ ≤ _; exact Nat.le_of_eq rfl) (hb hby d25_15) (fun _ _ => ⟨rfl, e8, (by decide : 1 + 0 ≤ _), (by decide : 68 + 0 ≤ _)⟩)
  dsimp only [Pt.U, Pt.locs, Pt.cells, Pt.slots] at X10 l10 y10 z10 st10 hQ10
  subst l10 y10 z10
  obtain ⟨rfl, N10q, K10, V_r⟩ := hQ10
  have E_b := E_b.keep K10
  have F_value_b := F_value_b.keep K10 (ninS ne_b_r nin0)
  have F_coder_b := F_coder_b.keep K10 (ninS ne_b_r nin0)
  have F_count_b := F_count_b.keep K10 (ninS ne_b_r nin0)
  have F_maybeLatin1_b := F_maybeLatin1_b.keep K10 (ninS ne_b_r nin0)
  have K0 := K0.trans K10 (allS (Or.inr sz_r) all0)
  rw [own_l68] at V_r
  have N10 := Fr.app N2 N10q
  have go11 : Go p e below T10 (mkF m 18 #[.val (.ref b), .val (.int (17 : Int32)), .val (.ref a2)] []) S0 := fun t kt => go9 t (st10.trans kt)
  exact own_leaveV X10 hx hret hlk (hb hby d25_18) go11 rfl (⟨r, kr, rfl, N10, K0, E_b, F_value_b, F_coder_b, F_count_b, F_maybeLatin1_b, V_r, sz_r⟩) (by decide) (by decide)
theorem pnj_34 : plainName "java/lang/AbstractStringBuilder" = true := by first | (simp [plainName, overriddenIn]; done) | decide +kernel
theorem efj_rm_app1 (m : MethodId) (b : Addr) (a2 : Addr) : entryFrame m #[(.ref b), (.ref a2)] 3 = mkF m 0 #[.val (.ref b), .val (.ref a2), .unset] [] := by first | (simp [entryFrame, mkF, argsToLocals, Value.category]; done) | rfl
theorem d34_0 : Dc c44 0 (.aload_n 1) 1 := by decide +kernel
theorem d34_1 : Dc c44 1 (.ifnonnull 8) 3 := by decide +kernel
theorem d34_9 : Dc c44 9 (.aload_n 1) 1 := by decide +kernel
theorem pd37_ : parseMethodDescriptor "()I" = some ⟨[], some .int⟩ := by decide +kernel
theorem d34_10 : Dc c44 10 (.invokevirtual 32) 3 := by decide +kernel
theorem d34_13 : Dc c44 13 (.istore_n 2) 1 := by decide +kernel
theorem d34_14 : Dc c44 14 (.aload_n 0) 1 := by decide +kernel
theorem d34_15 : Dc c44 15 (.aload_n 0) 1 := by decide +kernel
theorem d34_16 : Dc c44 16 (.getfield 79) 3 := by decide +kernel
theorem d34_19 : Dc c44 19 (.iload_n 2) 1 := by decide +kernel
theorem d34_20 : Dc c44 20 (.iadd) 1 := by decide +kernel
theorem d34_21 : Dc c44 21 (.invokevirtual 100) 3 := by decide +kernel
theorem d34_24 : Dc c44 24 (.aload_n 0) 1 := by decide +kernel
theorem d34_25 : Dc c44 25 (.aload_n 0) 1 := by decide +kernel
theorem d34_26 : Dc c44 26 (.getfield 79) 3 := by decide +kernel
theorem d34_29 : Dc c44 29 (.aload_n 1) 1 := by decide +kernel
theorem pd10_ : parseMethodDescriptor "(ILjava/lang/String;)V" = some ⟨[.int, (.object "java/lang/String")], none⟩ := by decide +kernel
theorem d34_30 : Dc c44 30 (.invokevirtual 208) 3 := by decide +kernel
theorem d34_33 : Dc c44 33 (.aload_n 0) 1 := by decide +kernel
theorem d34_34 : Dc c44 34 (.dup) 1 := by decide +kernel
theorem d34_35 : Dc c44 35 (.getfield 79) 3 := by decide +kernel
theorem d34_38 : Dc c44 38 (.iload_n 2) 1 := by decide +kernel
theorem d34_39 : Dc c44 39 (.iadd) 1 := by decide +kernel
theorem d34_40 : Dc c44 40 (.putfield 79) 3 := by decide +kernel
theorem d34_43 : Dc c44 43 (.aload_n 0) 1 := by decide +kernel
theorem d34_44 : Dc c44 44 (.areturn) 1 := by decide +kernel
def Q_rm_app1 (Z : State) (b : Addr) (a2 : Addr) (t : Addr) (kt : ClassId) (v_ : Addr) (kv : ClassId) (zc : Int32) (h0 : Heap) (n0 : Nat) (v : Option Value) (h : Heap) (L : List Loc) : Prop := ∃ (u : Addr) (ku : ClassId), v = some (.ref b) ∧ Fr n0 L ∧ Keep h0 h [b] ∧ Exa Z h b "java/lang/StringBuilder" ∧ Fld Z h b "java/lang/AbstractStringBuilder" "value" "[B" (.ref u) ∧ Fld Z h b "java/lang/AbstractStringBuilder" "coder" "B" (.int (0 : Int32)) ∧ Fld Z h b "java/lang/AbstractStringBuilder" "count" "I" (.int (17 : Int32)) ∧ Fld Z h b "java/lang/AbstractStringBuilder" "maybeLatin1" "Z" (.int (0 : Int32)) ∧ Arv Z h u ku .byte (34 : Int32) own_L34 (.int (0 : Int32)) ∧ h0.size ≤ u
theorem rm_app1 (l : Launch) (Z : State) (a0 : Array Value) (hw : Hw a0 Z) (ws : List Jvm.Cond) (b : Addr) (a2 : Addr) (t : Addr) (kt : ClassId) (v_ : Addr) (kv : ClassId) (zc : Int32) (h0 : Heap) (n0 : Nat) (Z0 : n0 ≤ h0.size) (O0 : Ext Z.heap h0) (hn0 : Z.heap.size ≤ n0) (S_CS : Sta Z Z.heap "java/lang/String" "COMPACT_STRINGS" "Z" (.int zc)) (P5 : ¬ zc = (0 : Int32)) (E_b : Exa Z h0 b "java/lang/StringBuilder") (F_value_b : Fld Z h0 b "java/lang/AbstractStringBuilder" "value" "[B" (.ref v_)) (F_coder_b : Fld Z h0 b "java/lang/AbstractStringBuilder" "coder" "B" (.int (0 : Int32))) (F_count_b : Fld Z h0 b "java/lang/AbstractStringBuilder" "count" "I" (.int (0 : Int32))) (F_maybeLatin1_b : Fld Z h0 b "java/lang/AbstractStringBuilder" "maybeLatin1" "Z" (.int (0 : Int32))) (E_a2 : Exa Z h0 a2 "java/lang/String") (C_a2 : Fld Z h0 a2 "java/lang/String" "coder" "B" (.int (0 : Int32))) (V_a2 : Fld Z h0 a2 "java/lang/String" "value" "[B" (.ref t)) (A_t : Arv Z h0 t kt .byte (Int32.ofNat own_PB.length) own_PB (.int (0 : Int32))) (g_b : n0 ≤ b) (V_v_ : Arv Z h0 v_ kv .byte (16 : Int32) (List.replicate 16 (Value.int (0 : Int32))) (.int (0 : Int32))) (ne_a2_b : a2 ≠ b) (ne_t_b : t ≠ b) :
    MF l y6_ jdk_68_method_22_code 3 (some (.object "java/lang/AbstractStringBuilder")) ws (rM 4 1 34 62) #[(.ref b), (.ref a2)] Z h0 (Q_rm_app1 Z b a2 t kt v_ kv zc h0 n0) := by
  refine own_bodyF n0 (plainFor_of_name pnj_34) (fun m => efj_rm_app1 m b a2) ?_
  intro p e s m below meth c s₁ S0 hx hby hml hZ hown hnm hret hlk X0 e0 hh N0 hK go0
  have K0 : Keep h0 h0 [b] := Keep.refl h0 [b]
  have lt_t := A_t.lt
  have lt_a2 := E_a2.lt
  have lt_b := E_b.lt
  have go1 : Go p e below s₁ (mkF m 10 #[.val (.ref b), .val (.ref a2), .unset] [(.ref a2)]) S0 := by
    intro tt kt
    refine go0 tt ?_
    refine XS.aloadN X0.here hx rfl (hb hby d34_0) rfl rfl ?_
    refine XS.ifnonnullYes X0.here hx rfl (pc0 := 1) (pc' := 9) rfl (hb hby d34_1) rfl (by decide) (by decide) ?_
    refine XS.aloadN X0.here hx rfl (hb hby d34_9) rfl rfl ?_
    exact kt
  obtain ⟨cq2, kq2, q2a, q2b, q2c⟩ := isOf hZ e0 E_a2
  obtain ⟨_, _, ⟨T2, L2, k2, n2⟩, -, X2, ⟨Lc2, hQ2, l2, y2, z2⟩, st2⟩ := X0.virtualBack hx (y := y1_) (z := y1_) hown (mvT hZ (wi hw 93 rfl)) (mvT hZ (wi hw 94 rfl)) (notFace_of_selects (args := #[]) (mvT hZ (wi hw 96 rfl))) (mvT hZ (wi hw 96 rfl)) (mvT hZ (wi hw 95 rfl)) (by decide) (backOf (W := 0) (rm_slen l Z a0 hw [] a2 t kt (0 : Int32) own_PB (17 : Int32) zc h0 n0 Z0 (oO O0 K0 hn0 (allS g_b all0)) hn0 S_CS P5 E_a2 C_a2 V_a2 A_t (by decide) (by rw [own_PBl]; decide)) hZ (wi hw 97 rfl) (wi hw 4 rfl) (by decide) (by decide)) q2a q2c (g := (mkF m 10 #[.val (.ref b), .val (.ref a2), .unset] [(.ref a2)])) rfl (by rw [hml]; rfl) (Steps.refl _) (argsL := []) (rest := []) (lenOf pd37_ rfl) rfl (by show 2 * 0 + _ ≤ _; exact Nat.le_of_eq rfl) (hb hby d34_10) (fun _ _ => ⟨rfl, e0, (by decide : 0 + 0 ≤ _), (by decide : 0 + 0 ≤ _)⟩)
  dsimp only [Pt.U, Pt.locs, Pt.cells, Pt.slots] at X2 l2 y2 z2 st2 hQ2
  subst l2 y2 z2
  obtain ⟨rfl, N2q, g2⟩ := hQ2
  rw [← g2] at lt_t lt_a2 lt_b
  have K0 := own_ks g2 K0
  rw [← g2] at E_b F_value_b F_coder_b F_count_b F_maybeLatin1_b E_a2 C_a2 V_a2 A_t V_v_ Z0
  have N2 := Fr.app N0 N2q
  have go3 : Go p e below T2 (mkF m 13 #[.val (.ref b), .val (.ref a2), .unset] [(.int (17 : Int32))]) S0 := fun t kt => go1 t (st2.trans kt)
  have go4 : Go p e below T2 (mkF m 16 #[.val (.ref b), .val (.ref a2), .val (.int (17 : Int32))] [(.ref b), (.ref b)]) S0 := by
    intro tt kt
    refine go3 tt ?_
    refine XS.istoreN X2.here hx rfl (hb hby d34_13) rfl (l' := #[.val (.ref b), .val (.ref a2), .val (.int (17 : Int32))]) rfl ?_
    refine XS.aloadN X2.here hx rfl (hb hby d34_14) rfl rfl ?_
    refine XS.aloadN X2.here hx rfl (hb hby d34_15) rfl rfl ?_
    exact kt
  obtain ⟨T5, X5, e5, st5⟩ := getF X2 hx hZ hown (host := "") (Or.inl (wi hw 103 rfl)) Via.refl rfl F_count_b (g := (mkF m 16 #[.val (.ref b), .val (.ref a2), .val (.int (17 : Int32))] [(.ref b), (.ref b)])) rfl rfl (hb hby d34_16)
  have go6 : Go p e below T5 (mkF m 19 #[.val (.ref b), .val (.ref a2), .val (.int (17 : Int32))] [(.int (0 : Int32)), (.ref b)]) S0 := fun t kt => go4 t (st5 _ kt)
  have go7 : Go p e below T5 (mkF m 21 #[.val (.ref b), .val (.ref a2), .val (.int (17 : Int32))] [(.int (17 : Int32)), (.ref b)]) S0 := by
    intro tt kt
    refine go6 tt ?_
    refine XS.iloadN X5.here hx rfl (hb hby d34_19) rfl ?_
    refine XS.iadd X5.here hx rfl (hb hby d34_20) rfl ?_
    exact kt
  obtain ⟨xc8, xk8, xh8, -, -, xs8, -⟩ := id E_b
  obtain ⟨_, _, ⟨T8, L8, k8, n8⟩, -, X8, ⟨Lc8, hQ8, l8, y8, z8⟩, st8⟩ := X5.privateBack hx (y := y7_) hown (mvT hZ (wi hw 105 rfl)) (mvT hZ (wi hw 106 rfl)) (own_selP (args := #[]) (mvT hZ (wi hw 108 rfl)) (Cond.privateMethod_at (args := #[]) (mvT hZ (wi hw 107 rfl))) (mvT hZ (wi hw 106 rfl)) (by decide)) (Cond.privateMethod_at (args := #[]) (mvT hZ (wi hw 107 rfl))) (mvT hZ (wi hw 109 rfl)) (by decide) (backOf (W := 0) (rm_ens1 l Z a0 hw [] b v_ kv T2.heap n0 Z0 E_b F_value_b F_coder_b F_count_b F_maybeLatin1_b g_b V_v_) hZ (wi hw 109 rfl) (wi hw 74 rfl) (by decide) (by decide)) (g := (mkF m 21 #[.val (.ref b), .val (.ref a2), .val (.int (17 : Int32))] [(.int (17 : Int32)), (.ref b)])) rfl (by rw [hml]; rfl) (Steps.refl _) (a := b) (by rw [e5]; exact xh8) (VmData.noStatics_of xs8) (argsL := [(.int (17 : Int32))]) (rest := []) (lenOf pd32_ rfl) rfl (by show 2 * 0 + _ ≤ _; exact Nat.le_of_eq rfl) (hb hby d34_21) (fun _ _ => ⟨rfl, e5, (by decide : 0 + 1 ≤ _), (by decide : 0 + 34 ≤ _)⟩)
  dsimp only [Pt.U, Pt.locs, Pt.cells, Pt.slots] at X8 l8 y8 z8 st8 hQ8
  subst l8 y8 z8
  obtain ⟨u, ku, rfl, N8q, K8, E_b, F_value_b, F_coder_b, F_count_b, F_maybeLatin1_b, V_u, sz_u⟩ := hQ8
  have E_a2 := E_a2.keep K8
  have C_a2 := C_a2.keep K8 (ninS ne_a2_b nin0)
  have V_a2 := V_a2.keep K8 (ninS ne_a2_b nin0)
  have A_t := A_t.keep K8 (ninS ne_t_b nin0)
  have ne_t_u := oR lt_t sz_u
  have ne_a2_u := oR lt_a2 sz_u
  have ne_b_u := oR lt_b sz_u
  have ne_u_b := ne_b_u.symm
  have g_u : n0 ≤ u := Nat.le_trans Z0 sz_u
  have sz_u := Nat.le_trans K0.1 sz_u
  have K0 := K0.trans K8 (allS (Or.inl (List.mem_cons_self ..)) all0)
  have Z0 := Nat.le_trans Z0 K8.1
  have V_u : Arv Z T8.heap u ku .byte (Int32.ofNat (List.replicate 34 (Value.int (0 : Int32))).length) (List.replicate 34 (Value.int (0 : Int32))) (.int (0 : Int32)) := by rw [List.length_replicate]; exact V_u
  have N8 := Fr.app N2 N8q
  have go9 : Go p e below T8 (mkF m 24 #[.val (.ref b), .val (.ref a2), .val (.int (17 : Int32))] []) S0 := fun t kt => go7 t (st8.trans kt)
  have go10 : Go p e below T8 (mkF m 26 #[.val (.ref b), .val (.ref a2), .val (.int (17 : Int32))] [(.ref b), (.ref b)]) S0 := by
    intro tt kt
    refine go9 tt ?_
    refine XS.aloadN X8.here hx rfl (hb hby d34_24) rfl rfl ?_
    refine XS.aloadN X8.here hx rfl (hb hby d34_25) rfl rfl ?_
    exact kt
  obtain ⟨T11, X11, e11, st11⟩ := getF X8 hx hZ hown (host := "") (Or.inl (wi hw 103 rfl)) Via.refl rfl F_count_b (g := (mkF m 26 #[.val (.ref b), .val (.ref a2), .val (.int (17 : Int32))] [(.ref b), (.ref b)])) rfl rfl (hb hby d34_26)
  have go12 : Go p e below T11 (mkF m 29 #[.val (.ref b), .val (.ref a2), .val (.int (17 : Int32))] [(.int (0 : Int32)), (.ref b)]) S0 := fun t kt => go10 t (st11 _ kt)
  have go13 : Go p e below T11 (mkF m 30 #[.val (.ref b), .val (.ref a2), .val (.int (17 : Int32))] [(.ref a2), (.int (0 : Int32)), (.ref b)]) S0 := by
    intro tt kt
    refine go12 tt ?_
    refine XS.aloadN X11.here hx rfl (hb hby d34_29) rfl rfl ?_
    exact kt
  obtain ⟨xc14, xk14, xh14, -, -, xs14, -⟩ := id E_b
  obtain ⟨_, _, ⟨T14, L14, k14, n14⟩, -, X14, ⟨Lc14, hQ14, l14, y14, z14⟩, st14⟩ := X11.privateBack hx (y := y9_) hown (mvT hZ (wi hw 136 rfl)) (mvT hZ (wi hw 137 rfl)) (own_selP (args := #[]) (mvT hZ (wi hw 139 rfl)) (Cond.privateMethod_at (args := #[]) (mvT hZ (wi hw 138 rfl))) (mvT hZ (wi hw 137 rfl)) (by decide)) (Cond.privateMethod_at (args := #[]) (mvT hZ (wi hw 138 rfl))) (mvT hZ (wi hw 140 rfl)) (by decide) (backOf (W := 0) (rm_put0 l Z a0 hw [] b (0 : Int32) a2 (0 : Int32) t kt u ku own_PB (List.replicate 34 (Value.int (0 : Int32))) 0 (0 : Int32) zc T8.heap n0 Z0 (oO O0 K0 hn0 (allS g_b all0)) hn0 S_CS P5 E_b F_value_b F_coder_b F_count_b F_maybeLatin1_b E_a2 C_a2 V_a2 A_t (by decide) V_u ne_t_u ne_a2_u ne_b_u g_u (by decide) (by rw [own_PBl, List.length_replicate]; decide) (by rw [List.length_replicate]; decide)) hZ (wi hw 140 rfl) (wi hw 74 rfl) (by decide) (by decide)) (g := (mkF m 30 #[.val (.ref b), .val (.ref a2), .val (.int (17 : Int32))] [(.ref a2), (.int (0 : Int32)), (.ref b)])) rfl (by rw [hml]; rfl) (Steps.refl _) (a := b) (by rw [e11]; exact xh14) (VmData.noStatics_of xs14) (argsL := [(.int (0 : Int32)), (.ref a2)]) (rest := []) (lenOf pd10_ rfl) rfl (by show 2 * 0 + _ ≤ _; exact Nat.le_of_eq rfl) (hb hby d34_30) (fun _ _ => ⟨rfl, e11, (by decide : 1 + 0 ≤ _), (by decide : 34 + 0 ≤ _)⟩)
  dsimp only [Pt.U, Pt.locs, Pt.cells, Pt.slots] at X14 l14 y14 z14 st14 hQ14
  subst l14 y14 z14
  obtain ⟨rfl, N14q, K14, E_b, F_value_b, F_coder_b, F_count_b, F_maybeLatin1_b, V_u⟩ := hQ14
  have K0 := K0.trans K14 (allS (Or.inr sz_u) all0)
  have Z0 := Nat.le_trans Z0 K14.1
  have V_u : Arv Z T14.heap u ku .byte (34 : Int32) own_L34 (.int (0 : Int32)) := oA (by rw [List.length_replicate] at V_u; exact V_u) (by decide +kernel)
  have N14 := Fr.app N8 N14q
  have go15 : Go p e below T14 (mkF m 33 #[.val (.ref b), .val (.ref a2), .val (.int (17 : Int32))] []) S0 := fun t kt => go13 t (st14.trans kt)
  have go16 : Go p e below T14 (mkF m 35 #[.val (.ref b), .val (.ref a2), .val (.int (17 : Int32))] [(.ref b), (.ref b)]) S0 := by
    intro tt kt
    refine go15 tt ?_
    refine XS.aloadN X14.here hx rfl (hb hby d34_33) rfl rfl ?_
    refine XS.dup X14.here hx rfl (hb hby d34_34) rfl rfl ?_
    exact kt
  obtain ⟨T17, X17, e17, st17⟩ := getF X14 hx hZ hown (host := "") (Or.inl (wi hw 103 rfl)) Via.refl rfl F_count_b (g := (mkF m 35 #[.val (.ref b), .val (.ref a2), .val (.int (17 : Int32))] [(.ref b), (.ref b)])) rfl rfl (hb hby d34_35)
  have go18 : Go p e below T17 (mkF m 38 #[.val (.ref b), .val (.ref a2), .val (.int (17 : Int32))] [(.int (0 : Int32)), (.ref b)]) S0 := fun t kt => go16 t (st17 _ kt)
  have go19 : Go p e below T17 (mkF m 40 #[.val (.ref b), .val (.ref a2), .val (.int (17 : Int32))] [(.int (17 : Int32)), (.ref b)]) S0 := by
    intro tt kt
    refine go18 tt ?_
    refine XS.iloadN X17.here hx rfl (hb hby d34_38) rfl ?_
    refine XS.iadd X17.here hx rfl (hb hby d34_39) rfl ?_
    exact kt
  obtain ⟨T20, h20, X20, e20, W20, st20⟩ := putF X17 hx hZ hown (host := "") (Or.inl (wi hw 103 rfl)) Via.refl e17 F_count_b E_b (Or.inl (wi hw 104 rfl)) (wi hw 65 rfl) (ty := .int) (by decide) rfl rfl (g := (mkF m 40 #[.val (.ref b), .val (.ref a2), .val (.int (17 : Int32))] [(.int (17 : Int32)), (.ref b)])) rfl rfl (hb hby d34_40)
  have E_b := E_b.wr W20
  have F_value_b := F_value_b.other W20 (Or.inr (slot_ne (Or.inl (wi hw 79 rfl)) (Or.inl (wi hw 104 rfl)) (by decide) (t := (.array .byte)) (t' := .int) (by decide) (by decide)))
  have F_coder_b := F_coder_b.other W20 (Or.inr (slot_ne (Or.inl (wi hw 81 rfl)) (Or.inl (wi hw 104 rfl)) (by decide) (t := .byte) (t' := .int) (by decide) (by decide)))
  have F_maybeLatin1_b := F_maybeLatin1_b.other W20 (Or.inr (slot_ne (Or.inl (wi hw 322 rfl)) (Or.inl (wi hw 104 rfl)) (by decide) (t := .boolean) (t' := .int) (by decide) (by decide)))
  have V_u := V_u.other W20 ne_u_b
  have F_count_b := F_count_b.same W20
  have Z0 := Nat.le_trans Z0 (Keep.of_wr W20).1
  have K0 := K0.wr W20 (Or.inl (List.mem_of_getElem? (i := 0) rfl))
  have N20r := Fr.snoc X20 N14 g_b
  have go21 : Go p e below T20 (mkF m 43 #[.val (.ref b), .val (.ref a2), .val (.int (17 : Int32))] []) S0 := fun t kt => go19 t (st20 _ kt)
  have go22 : Go p e below T20 (mkF m 44 #[.val (.ref b), .val (.ref a2), .val (.int (17 : Int32))] [(.ref b)]) S0 := by
    intro tt kt
    refine go21 tt ?_
    refine XS.aloadN X20.here hx rfl (hb hby d34_43) rfl rfl ?_
    exact kt
  exact own_leaveO X20 hx hret hlk (hb hby d34_44) go22 e20 (⟨u, ku, rfl, N20r, K0, E_b, F_value_b, F_coder_b, F_count_b, F_maybeLatin1_b, V_u, sz_u⟩) (by decide) (by decide)
theorem own_add17 (n : Nat) : (17 : Int32) + Int32.ofNat n = Int32.ofNat (17 + n) := (Int32.ofNat_add 17 n).symm
theorem efj_rm_app0 (m : MethodId) (b : Addr) (a2 : Addr) : entryFrame m #[(.ref b), (.ref a2)] 3 = mkF m 0 #[.val (.ref b), .val (.ref a2), .unset] [] := by first | (simp [entryFrame, mkF, argsToLocals, Value.category]; done) | rfl
def Q_rm_app0 (Z : State) (b : Addr) (a2 : Addr) (t : Addr) (kt : ClassId) (u : Addr) (ku : ClassId) (n : Nat) (ds : List Value) (zc : Int32) (h0 : Heap) (n0 : Nat) (v : Option Value) (h : Heap) (L : List Loc) : Prop := v = some (.ref b) ∧ Fr n0 L ∧ Keep h0 h [b, u] ∧ Exa Z h b "java/lang/StringBuilder" ∧ Fld Z h b "java/lang/AbstractStringBuilder" "value" "[B" (.ref u) ∧ Fld Z h b "java/lang/AbstractStringBuilder" "coder" "B" (.int (0 : Int32)) ∧ Fld Z h b "java/lang/AbstractStringBuilder" "count" "I" (.int (Int32.ofNat (17 + n))) ∧ Fld Z h b "java/lang/AbstractStringBuilder" "maybeLatin1" "Z" (.int (0 : Int32)) ∧ Arv Z h u ku .byte (34 : Int32) (own_DL ds) (.int (0 : Int32))
theorem rm_app0 (l : Launch) (Z : State) (a0 : Array Value) (hw : Hw a0 Z) (ws : List Jvm.Cond) (b : Addr) (a2 : Addr) (t : Addr) (kt : ClassId) (u : Addr) (ku : ClassId) (n : Nat) (ds : List Value) (zc : Int32) (h0 : Heap) (n0 : Nat) (Z0 : n0 ≤ h0.size) (O0 : Ext Z.heap h0) (hn0 : Z.heap.size ≤ n0) (S_CS : Sta Z Z.heap "java/lang/String" "COMPACT_STRINGS" "Z" (.int zc)) (P5 : ¬ zc = (0 : Int32)) (E_b : Exa Z h0 b "java/lang/StringBuilder") (F_value_b : Fld Z h0 b "java/lang/AbstractStringBuilder" "value" "[B" (.ref u)) (F_coder_b : Fld Z h0 b "java/lang/AbstractStringBuilder" "coder" "B" (.int (0 : Int32))) (F_count_b : Fld Z h0 b "java/lang/AbstractStringBuilder" "count" "I" (.int (17 : Int32))) (F_maybeLatin1_b : Fld Z h0 b "java/lang/AbstractStringBuilder" "maybeLatin1" "Z" (.int (0 : Int32))) (E_a2 : Exa Z h0 a2 "java/lang/String") (C_a2 : Fld Z h0 a2 "java/lang/String" "coder" "B" (.int (0 : Int32))) (V_a2 : Fld Z h0 a2 "java/lang/String" "value" "[B" (.ref t)) (A_t : Arv Z h0 t kt .byte (Int32.ofNat ds.length) ds (.int (0 : Int32))) (g_b : n0 ≤ b) (g_u : n0 ≤ u) (V_u : Arv Z h0 u ku .byte (34 : Int32) own_L34 (.int (0 : Int32))) (ne_a2_b : a2 ≠ b) (ne_t_b : t ≠ b) (ne_a2_u : a2 ≠ u) (ne_t_u : t ≠ u) (ne_b_u : b ≠ u) (hn : n = 0 ∨ n = 1 ∨ n = 2 ∨ n = 3 ∨ n = 4) (hdl : ds.length = n) :
    MF l y6_ jdk_68_method_22_code 3 (some (.object "java/lang/AbstractStringBuilder")) ws (rM 3 0 0 47) #[(.ref b), (.ref a2)] Z h0 (Q_rm_app0 Z b a2 t kt u ku n ds zc h0 n0) := by
  refine own_bodyF n0 (plainFor_of_name pnj_34) (fun m => efj_rm_app0 m b a2) ?_
  intro p e s m below meth c s₁ S0 hx hby hml hZ hown hnm hret hlk X0 e0 hh N0 hK go0
  have K0 : Keep h0 h0 [b, u] := Keep.refl h0 [b, u]
  have ne_u_b := ne_b_u.symm
  have go1 : Go p e below s₁ (mkF m 10 #[.val (.ref b), .val (.ref a2), .unset] [(.ref a2)]) S0 := by
    intro tt kt
    refine go0 tt ?_
    refine XS.aloadN X0.here hx rfl (hb hby d34_0) rfl rfl ?_
    refine XS.ifnonnullYes X0.here hx rfl (pc0 := 1) (pc' := 9) rfl (hb hby d34_1) rfl (by decide) (by decide) ?_
    refine XS.aloadN X0.here hx rfl (hb hby d34_9) rfl rfl ?_
    exact kt
  obtain ⟨cq2, kq2, q2a, q2b, q2c⟩ := isOf hZ e0 E_a2
  obtain ⟨_, _, ⟨T2, L2, k2, n2⟩, -, X2, ⟨Lc2, hQ2, l2, y2, z2⟩, st2⟩ := X0.virtualBack hx (y := y1_) (z := y1_) hown (mvT hZ (wi hw 93 rfl)) (mvT hZ (wi hw 94 rfl)) (notFace_of_selects (args := #[]) (mvT hZ (wi hw 96 rfl))) (mvT hZ (wi hw 96 rfl)) (mvT hZ (wi hw 95 rfl)) (by decide) (backOf (W := 0) (rm_slen l Z a0 hw [] a2 t kt (0 : Int32) ds (Int32.ofNat n) zc h0 n0 Z0 (oO O0 K0 hn0 (allS g_b (allS g_u all0))) hn0 S_CS P5 E_a2 C_a2 V_a2 A_t (by decide) (by rw [hdl]; rcases hn with rfl | rfl | rfl | rfl | rfl <;> decide)) hZ (wi hw 97 rfl) (wi hw 4 rfl) (by decide) (by decide)) q2a q2c (g := (mkF m 10 #[.val (.ref b), .val (.ref a2), .unset] [(.ref a2)])) rfl (by rw [hml]; rfl) (Steps.refl _) (argsL := []) (rest := []) (lenOf pd37_ rfl) rfl (by show 2 * 0 + _ ≤ _; exact Nat.le_of_eq rfl) (hb hby d34_10) (fun _ _ => ⟨rfl, e0, (by decide : 0 + 0 ≤ _), (by decide : 0 + 0 ≤ _)⟩)
  dsimp only [Pt.U, Pt.locs, Pt.cells, Pt.slots] at X2 l2 y2 z2 st2 hQ2
  subst l2 y2 z2
  obtain ⟨rfl, N2q, g2⟩ := hQ2
  have K0 := own_ks g2 K0
  rw [← g2] at E_b F_value_b F_coder_b F_count_b F_maybeLatin1_b E_a2 C_a2 V_a2 A_t V_u Z0
  have N2 := Fr.app N0 N2q
  have go3 : Go p e below T2 (mkF m 13 #[.val (.ref b), .val (.ref a2), .unset] [(.int (Int32.ofNat n))]) S0 := fun t kt => go1 t (st2.trans kt)
  have go4 : Go p e below T2 (mkF m 16 #[.val (.ref b), .val (.ref a2), .val (.int (Int32.ofNat n))] [(.ref b), (.ref b)]) S0 := by
    intro tt kt
    refine go3 tt ?_
    refine XS.istoreN X2.here hx rfl (hb hby d34_13) rfl (l' := #[.val (.ref b), .val (.ref a2), .val (.int (Int32.ofNat n))]) rfl ?_
    refine XS.aloadN X2.here hx rfl (hb hby d34_14) rfl rfl ?_
    refine XS.aloadN X2.here hx rfl (hb hby d34_15) rfl rfl ?_
    exact kt
  obtain ⟨T5, X5, e5, st5⟩ := getF X2 hx hZ hown (host := "") (Or.inl (wi hw 103 rfl)) Via.refl rfl F_count_b (g := (mkF m 16 #[.val (.ref b), .val (.ref a2), .val (.int (Int32.ofNat n))] [(.ref b), (.ref b)])) rfl rfl (hb hby d34_16)
  have go6 : Go p e below T5 (mkF m 19 #[.val (.ref b), .val (.ref a2), .val (.int (Int32.ofNat n))] [(.int (17 : Int32)), (.ref b)]) S0 := fun t kt => go4 t (st5 _ kt)
  have go7 : Go p e below T5 (mkF m 21 #[.val (.ref b), .val (.ref a2), .val (.int (Int32.ofNat n))] [(.int ((17 : Int32) + (Int32.ofNat n))), (.ref b)]) S0 := by
    intro tt kt
    refine go6 tt ?_
    refine XS.iloadN X5.here hx rfl (hb hby d34_19) rfl ?_
    refine XS.iadd X5.here hx rfl (hb hby d34_20) rfl ?_
    exact kt
  have cv8 : ((17 : Int32) + (Int32.ofNat n)) = (Int32.ofNat (17 + n)) := (own_add17 n)
  have go8 : Go p e below T5 (mkF m 21 #[.val (.ref b), .val (.ref a2), .val (.int (Int32.ofNat n))] [(.int (Int32.ofNat (17 + n))), (.ref b)]) S0 := by have q := go7; rw [cv8] at q; exact q
  obtain ⟨xc9, xk9, xh9, -, -, xs9, -⟩ := id E_b
  obtain ⟨_, _, ⟨T9, L9, k9, n9⟩, -, X9, ⟨Lc9, hQ9, l9, y9, z9⟩, st9⟩ := X5.privateBack hx (y := y7_) hown (mvT hZ (wi hw 105 rfl)) (mvT hZ (wi hw 106 rfl)) (own_selP (args := #[]) (mvT hZ (wi hw 108 rfl)) (Cond.privateMethod_at (args := #[]) (mvT hZ (wi hw 107 rfl))) (mvT hZ (wi hw 106 rfl)) (by decide)) (Cond.privateMethod_at (args := #[]) (mvT hZ (wi hw 107 rfl))) (mvT hZ (wi hw 109 rfl)) (by decide) (backOf (W := 0) (rm_ens0 l Z a0 hw [] b (Int32.ofNat (17 + n)) u ku (34 : Int32) (0 : Int32) _ T2.heap n0 Z0 F_value_b F_coder_b V_u (by rcases hn with rfl | rfl | rfl | rfl | rfl <;> decide)) hZ (wi hw 109 rfl) (wi hw 74 rfl) (by decide) (by decide)) (g := (mkF m 21 #[.val (.ref b), .val (.ref a2), .val (.int (Int32.ofNat n))] [(.int (Int32.ofNat (17 + n))), (.ref b)])) rfl (by rw [hml]; rfl) (Steps.refl _) (a := b) (by rw [e5]; exact xh9) (VmData.noStatics_of xs9) (argsL := [(.int (Int32.ofNat (17 + n)))]) (rest := []) (lenOf pd32_ rfl) rfl (by show 2 * 0 + _ ≤ _; exact Nat.le_of_eq rfl) (hb hby d34_21) (fun _ _ => ⟨rfl, e5, (by decide : 0 + 0 ≤ _), (by decide : 0 + 0 ≤ _)⟩)
  dsimp only [Pt.U, Pt.locs, Pt.cells, Pt.slots] at X9 l9 y9 z9 st9 hQ9
  subst l9 y9 z9
  obtain ⟨rfl, N9q, g9⟩ := hQ9
  have K0 := own_ks g9 K0
  rw [← g9] at E_b F_value_b F_coder_b F_count_b F_maybeLatin1_b E_a2 C_a2 V_a2 A_t V_u Z0
  have N9 := Fr.app N2 N9q
  have go10 : Go p e below T9 (mkF m 24 #[.val (.ref b), .val (.ref a2), .val (.int (Int32.ofNat n))] []) S0 := fun t kt => go8 t (st9.trans kt)
  have go11 : Go p e below T9 (mkF m 26 #[.val (.ref b), .val (.ref a2), .val (.int (Int32.ofNat n))] [(.ref b), (.ref b)]) S0 := by
    intro tt kt
    refine go10 tt ?_
    refine XS.aloadN X9.here hx rfl (hb hby d34_24) rfl rfl ?_
    refine XS.aloadN X9.here hx rfl (hb hby d34_25) rfl rfl ?_
    exact kt
  obtain ⟨T12, X12, e12, st12⟩ := getF X9 hx hZ hown (host := "") (Or.inl (wi hw 103 rfl)) Via.refl rfl F_count_b (g := (mkF m 26 #[.val (.ref b), .val (.ref a2), .val (.int (Int32.ofNat n))] [(.ref b), (.ref b)])) rfl rfl (hb hby d34_26)
  have go13 : Go p e below T12 (mkF m 29 #[.val (.ref b), .val (.ref a2), .val (.int (Int32.ofNat n))] [(.int (17 : Int32)), (.ref b)]) S0 := fun t kt => go11 t (st12 _ kt)
  have V_u : Arv Z T9.heap u ku .byte (Int32.ofNat own_L34.length) own_L34 (.int (0 : Int32)) := by rw [own_l34]; exact V_u
  have go14 : Go p e below T12 (mkF m 30 #[.val (.ref b), .val (.ref a2), .val (.int (Int32.ofNat n))] [(.ref a2), (.int (17 : Int32)), (.ref b)]) S0 := by
    intro tt kt
    refine go13 tt ?_
    refine XS.aloadN X12.here hx rfl (hb hby d34_29) rfl rfl ?_
    exact kt
  obtain ⟨xc15, xk15, xh15, -, -, xs15, -⟩ := id E_b
  obtain ⟨_, _, ⟨T15, L15, k15, n15⟩, -, X15, ⟨Lc15, hQ15, l15, y15, z15⟩, st15⟩ := X12.privateBack hx (y := y9_) hown (mvT hZ (wi hw 136 rfl)) (mvT hZ (wi hw 137 rfl)) (own_selP (args := #[]) (mvT hZ (wi hw 139 rfl)) (Cond.privateMethod_at (args := #[]) (mvT hZ (wi hw 138 rfl))) (mvT hZ (wi hw 137 rfl)) (by decide)) (Cond.privateMethod_at (args := #[]) (mvT hZ (wi hw 138 rfl))) (mvT hZ (wi hw 140 rfl)) (by decide) (backOf (W := 0) (rm_put0 l Z a0 hw [] b (17 : Int32) a2 (0 : Int32) t kt u ku ds own_L34 17 (17 : Int32) zc T9.heap n0 Z0 (oO O0 K0 hn0 (allS g_b (allS g_u all0))) hn0 S_CS P5 E_b F_value_b F_coder_b F_count_b F_maybeLatin1_b E_a2 C_a2 V_a2 A_t (by decide) V_u ne_t_u ne_a2_u ne_b_u g_u (by decide) (by rw [own_l34]; omega) (by rw [own_l34]; decide)) hZ (wi hw 140 rfl) (wi hw 74 rfl) (by decide) (by decide)) (g := (mkF m 30 #[.val (.ref b), .val (.ref a2), .val (.int (Int32.ofNat n))] [(.ref a2), (.int (17 : Int32)), (.ref b)])) rfl (by rw [hml]; rfl) (Steps.refl _) (a := b) (by rw [e12]; exact xh15) (VmData.noStatics_of xs15) (argsL := [(.int (17 : Int32)), (.ref a2)]) (rest := []) (lenOf pd10_ rfl) rfl (by show 2 * 0 + _ ≤ _; exact Nat.le_of_eq rfl) (hb hby d34_30) (fun _ _ => ⟨rfl, e12, (by decide : 0 + 0 ≤ _), (by decide : 0 + 0 ≤ _)⟩)
  dsimp only [Pt.U, Pt.locs, Pt.cells, Pt.slots] at X15 l15 y15 z15 st15 hQ15
  subst l15 y15 z15
  obtain ⟨rfl, N15q, K15, E_b, F_value_b, F_coder_b, F_count_b, F_maybeLatin1_b, V_u⟩ := hQ15
  have K0 := K0.trans K15 (allS (Or.inl (List.mem_of_getElem? (i := 1) rfl)) all0)
  have Z0 := Nat.le_trans Z0 K15.1
  rw [own_l34] at V_u
  have N15 := Fr.app N9 N15q
  have go16 : Go p e below T15 (mkF m 33 #[.val (.ref b), .val (.ref a2), .val (.int (Int32.ofNat n))] []) S0 := fun t kt => go14 t (st15.trans kt)
  have go17 : Go p e below T15 (mkF m 35 #[.val (.ref b), .val (.ref a2), .val (.int (Int32.ofNat n))] [(.ref b), (.ref b)]) S0 := by
    intro tt kt
    refine go16 tt ?_
    refine XS.aloadN X15.here hx rfl (hb hby d34_33) rfl rfl ?_
    refine XS.dup X15.here hx rfl (hb hby d34_34) rfl rfl ?_
    exact kt
  obtain ⟨T18, X18, e18, st18⟩ := getF X15 hx hZ hown (host := "") (Or.inl (wi hw 103 rfl)) Via.refl rfl F_count_b (g := (mkF m 35 #[.val (.ref b), .val (.ref a2), .val (.int (Int32.ofNat n))] [(.ref b), (.ref b)])) rfl rfl (hb hby d34_35)
  have go19 : Go p e below T18 (mkF m 38 #[.val (.ref b), .val (.ref a2), .val (.int (Int32.ofNat n))] [(.int (17 : Int32)), (.ref b)]) S0 := fun t kt => go17 t (st18 _ kt)
  have go20 : Go p e below T18 (mkF m 40 #[.val (.ref b), .val (.ref a2), .val (.int (Int32.ofNat n))] [(.int ((17 : Int32) + (Int32.ofNat n))), (.ref b)]) S0 := by
    intro tt kt
    refine go19 tt ?_
    refine XS.iloadN X18.here hx rfl (hb hby d34_38) rfl ?_
    refine XS.iadd X18.here hx rfl (hb hby d34_39) rfl ?_
    exact kt
  have cv21 : ((17 : Int32) + (Int32.ofNat n)) = (Int32.ofNat (17 + n)) := (own_add17 n)
  have go21 : Go p e below T18 (mkF m 40 #[.val (.ref b), .val (.ref a2), .val (.int (Int32.ofNat n))] [(.int (Int32.ofNat (17 + n))), (.ref b)]) S0 := by have q := go20; rw [cv21] at q; exact q
  obtain ⟨T22, h22, X22, e22, W22, st22⟩ := putF X18 hx hZ hown (host := "") (Or.inl (wi hw 103 rfl)) Via.refl e18 F_count_b E_b (Or.inl (wi hw 104 rfl)) (wi hw 65 rfl) (ty := .int) (by decide) rfl rfl (g := (mkF m 40 #[.val (.ref b), .val (.ref a2), .val (.int (Int32.ofNat n))] [(.int (Int32.ofNat (17 + n))), (.ref b)])) rfl rfl (hb hby d34_40)
  have E_b := E_b.wr W22
  have F_value_b := F_value_b.other W22 (Or.inr (slot_ne (Or.inl (wi hw 79 rfl)) (Or.inl (wi hw 104 rfl)) (by decide) (t := (.array .byte)) (t' := .int) (by decide) (by decide)))
  have F_coder_b := F_coder_b.other W22 (Or.inr (slot_ne (Or.inl (wi hw 81 rfl)) (Or.inl (wi hw 104 rfl)) (by decide) (t := .byte) (t' := .int) (by decide) (by decide)))
  have F_maybeLatin1_b := F_maybeLatin1_b.other W22 (Or.inr (slot_ne (Or.inl (wi hw 322 rfl)) (Or.inl (wi hw 104 rfl)) (by decide) (t := .boolean) (t' := .int) (by decide) (by decide)))
  have V_u := V_u.other W22 ne_u_b
  have F_count_b := F_count_b.same W22
  have Z0 := Nat.le_trans Z0 (Keep.of_wr W22).1
  have K0 := K0.wr W22 (Or.inl (List.mem_of_getElem? (i := 0) rfl))
  have N22r := Fr.snoc X22 N15 g_b
  have go23 : Go p e below T22 (mkF m 43 #[.val (.ref b), .val (.ref a2), .val (.int (Int32.ofNat n))] []) S0 := fun t kt => go21 t (st22 _ kt)
  have go24 : Go p e below T22 (mkF m 44 #[.val (.ref b), .val (.ref a2), .val (.int (Int32.ofNat n))] [(.ref b)]) S0 := by
    intro tt kt
    refine go23 tt ?_
    refine XS.aloadN X22.here hx rfl (hb hby d34_43) rfl rfl ?_
    exact kt
  exact own_leaveO X22 hx hret hlk (hb hby d34_44) go24 e22 (⟨rfl, N22r, K0, E_b, F_value_b, F_coder_b, F_count_b, F_maybeLatin1_b, V_u⟩) (by decide) (by decide)
theorem efj_rm_appU (m : MethodId) (b : Addr) (a2 : Addr) : entryFrame m #[(.ref b), (.ref a2)] 3 = mkF m 0 #[.val (.ref b), .val (.ref a2), .unset] [] := by first | (simp [entryFrame, mkF, argsToLocals, Value.category]; done) | rfl
def Q_rm_appU (Z : State) (b : Addr) (a2 : Addr) (t : Addr) (kt : ClassId) (u : Addr) (ku : ClassId) (n : Nat) (ds : List Value) (fm : Value) (zc : Int32) (h0 : Heap) (n0 : Nat) (v : Option Value) (h : Heap) (L : List Loc) : Prop := ∃ (r : Addr) (kr : ClassId), v = some (.ref b) ∧ Fr n0 L ∧ Keep h0 h [b] ∧ Exa Z h b "java/lang/StringBuilder" ∧ Fld Z h b "java/lang/AbstractStringBuilder" "value" "[B" (.ref r) ∧ Fld Z h b "java/lang/AbstractStringBuilder" "coder" "B" (.int (1 : Int32)) ∧ Fld Z h b "java/lang/AbstractStringBuilder" "count" "I" (.int (Int32.ofNat (17 + n))) ∧ Fld Z h b "java/lang/AbstractStringBuilder" "maybeLatin1" "Z" (.int (0 : Int32)) ∧ Arv Z h r kr .byte (Int32.ofNat 68) (own_DU ds) (.int (0 : Int32))
theorem rm_appU (l : Launch) (Z : State) (a0 : Array Value) (hw : Hw a0 Z) (ws : List Jvm.Cond) (b : Addr) (a2 : Addr) (t : Addr) (kt : ClassId) (u : Addr) (ku : ClassId) (n : Nat) (ds : List Value) (fm : Value) (zc : Int32) (h0 : Heap) (n0 : Nat) (Z0 : n0 ≤ h0.size) (O0 : Ext Z.heap h0) (hn0 : Z.heap.size ≤ n0) (S_CS : Sta Z Z.heap "java/lang/String" "COMPACT_STRINGS" "Z" (.int zc)) (P5 : ¬ zc = (0 : Int32)) (S_AD : Sta Z Z.heap "java/lang/StringUTF16" "$assertionsDisabled" "Z" (.int (1 : Int32))) (S_HI : Sta Z Z.heap "java/lang/StringUTF16" "HI_BYTE_SHIFT" "I" (.int (0 : Int32))) (S_LO : Sta Z Z.heap "java/lang/StringUTF16" "LO_BYTE_SHIFT" "I" (.int (8 : Int32))) (S_SI : Sta Z Z.heap "jdk/internal/util/Preconditions" "SIOOBE_FORMATTER" "Ljava/util/function/BiFunction;" fm) (rf : fm.isRef = true) (E_b : Exa Z h0 b "java/lang/StringBuilder") (F_value_b : Fld Z h0 b "java/lang/AbstractStringBuilder" "value" "[B" (.ref u)) (F_coder_b : Fld Z h0 b "java/lang/AbstractStringBuilder" "coder" "B" (.int (0 : Int32))) (F_count_b : Fld Z h0 b "java/lang/AbstractStringBuilder" "count" "I" (.int (17 : Int32))) (F_maybeLatin1_b : Fld Z h0 b "java/lang/AbstractStringBuilder" "maybeLatin1" "Z" (.int (0 : Int32))) (E_a2 : Exa Z h0 a2 "java/lang/String") (C_a2 : Fld Z h0 a2 "java/lang/String" "coder" "B" (.int (1 : Int32))) (V_a2 : Fld Z h0 a2 "java/lang/String" "value" "[B" (.ref t)) (A_t : Arv Z h0 t kt .byte (Int32.ofNat ds.length) ds (.int (0 : Int32))) (g_b : n0 ≤ b) (V_u : Arv Z h0 u ku .byte (34 : Int32) own_L34 (.int (0 : Int32))) (ne_a2_b : a2 ≠ b) (ne_t_b : t ≠ b) (hn : n = 1 ∨ n = 2 ∨ n = 3) (hdl : ds.length = 2 * n) :
    MF l y6_ jdk_68_method_22_code 3 (some (.object "java/lang/AbstractStringBuilder")) ws (rM 8 1 68 116) #[(.ref b), (.ref a2)] Z h0 (Q_rm_appU Z b a2 t kt u ku n ds fm zc h0 n0) := by
  refine own_bodyF n0 (plainFor_of_name pnj_34) (fun m => efj_rm_appU m b a2) ?_
  intro p e s m below meth c s₁ S0 hx hby hml hZ hown hnm hret hlk X0 e0 hh N0 hK go0
  have K0 : Keep h0 h0 [b] := Keep.refl h0 [b]
  have go1 : Go p e below s₁ (mkF m 10 #[.val (.ref b), .val (.ref a2), .unset] [(.ref a2)]) S0 := by
    intro tt kt
    refine go0 tt ?_
    refine XS.aloadN X0.here hx rfl (hb hby d34_0) rfl rfl ?_
    refine XS.ifnonnullYes X0.here hx rfl (pc0 := 1) (pc' := 9) rfl (hb hby d34_1) rfl (by decide) (by decide) ?_
    refine XS.aloadN X0.here hx rfl (hb hby d34_9) rfl rfl ?_
    exact kt
  obtain ⟨cq2, kq2, q2a, q2b, q2c⟩ := isOf hZ e0 E_a2
  obtain ⟨_, _, ⟨T2, L2, k2, n2⟩, -, X2, ⟨Lc2, hQ2, l2, y2, z2⟩, st2⟩ := X0.virtualBack hx (y := y1_) (z := y1_) hown (mvT hZ (wi hw 93 rfl)) (mvT hZ (wi hw 94 rfl)) (notFace_of_selects (args := #[]) (mvT hZ (wi hw 96 rfl))) (mvT hZ (wi hw 96 rfl)) (mvT hZ (wi hw 95 rfl)) (by decide) (backOf (W := 0) (rm_slen l Z a0 hw [] a2 t kt (1 : Int32) ds (Int32.ofNat n) zc h0 n0 Z0 (oO O0 K0 hn0 (allS g_b all0)) hn0 S_CS P5 E_a2 C_a2 V_a2 A_t (by decide) (by rw [hdl]; rcases hn with rfl | rfl | rfl <;> decide)) hZ (wi hw 97 rfl) (wi hw 4 rfl) (by decide) (by decide)) q2a q2c (g := (mkF m 10 #[.val (.ref b), .val (.ref a2), .unset] [(.ref a2)])) rfl (by rw [hml]; rfl) (Steps.refl _) (argsL := []) (rest := []) (lenOf pd37_ rfl) rfl (by show 2 * 0 + _ ≤ _; exact Nat.le_of_eq rfl) (hb hby d34_10) (fun _ _ => ⟨rfl, e0, (by decide : 0 + 0 ≤ _), (by decide : 0 + 0 ≤ _)⟩)
  dsimp only [Pt.U, Pt.locs, Pt.cells, Pt.slots] at X2 l2 y2 z2 st2 hQ2
  subst l2 y2 z2
  obtain ⟨rfl, N2q, g2⟩ := hQ2
  have K0 := own_ks g2 K0
  rw [← g2] at E_b F_value_b F_coder_b F_count_b F_maybeLatin1_b E_a2 C_a2 V_a2 A_t V_u Z0
  have N2 := Fr.app N0 N2q
  have go3 : Go p e below T2 (mkF m 13 #[.val (.ref b), .val (.ref a2), .unset] [(.int (Int32.ofNat n))]) S0 := fun t kt => go1 t (st2.trans kt)
  have go4 : Go p e below T2 (mkF m 16 #[.val (.ref b), .val (.ref a2), .val (.int (Int32.ofNat n))] [(.ref b), (.ref b)]) S0 := by
    intro tt kt
    refine go3 tt ?_
    refine XS.istoreN X2.here hx rfl (hb hby d34_13) rfl (l' := #[.val (.ref b), .val (.ref a2), .val (.int (Int32.ofNat n))]) rfl ?_
    refine XS.aloadN X2.here hx rfl (hb hby d34_14) rfl rfl ?_
    refine XS.aloadN X2.here hx rfl (hb hby d34_15) rfl rfl ?_
    exact kt
  obtain ⟨T5, X5, e5, st5⟩ := getF X2 hx hZ hown (host := "") (Or.inl (wi hw 103 rfl)) Via.refl rfl F_count_b (g := (mkF m 16 #[.val (.ref b), .val (.ref a2), .val (.int (Int32.ofNat n))] [(.ref b), (.ref b)])) rfl rfl (hb hby d34_16)
  have go6 : Go p e below T5 (mkF m 19 #[.val (.ref b), .val (.ref a2), .val (.int (Int32.ofNat n))] [(.int (17 : Int32)), (.ref b)]) S0 := fun t kt => go4 t (st5 _ kt)
  have go7 : Go p e below T5 (mkF m 21 #[.val (.ref b), .val (.ref a2), .val (.int (Int32.ofNat n))] [(.int ((17 : Int32) + (Int32.ofNat n))), (.ref b)]) S0 := by
    intro tt kt
    refine go6 tt ?_
    refine XS.iloadN X5.here hx rfl (hb hby d34_19) rfl ?_
    refine XS.iadd X5.here hx rfl (hb hby d34_20) rfl ?_
    exact kt
  have cv8 : ((17 : Int32) + (Int32.ofNat n)) = (Int32.ofNat (17 + n)) := (own_add17 n)
  have go8 : Go p e below T5 (mkF m 21 #[.val (.ref b), .val (.ref a2), .val (.int (Int32.ofNat n))] [(.int (Int32.ofNat (17 + n))), (.ref b)]) S0 := by have q := go7; rw [cv8] at q; exact q
  obtain ⟨xc9, xk9, xh9, -, -, xs9, -⟩ := id E_b
  obtain ⟨_, _, ⟨T9, L9, k9, n9⟩, -, X9, ⟨Lc9, hQ9, l9, y9, z9⟩, st9⟩ := X5.privateBack hx (y := y7_) hown (mvT hZ (wi hw 105 rfl)) (mvT hZ (wi hw 106 rfl)) (own_selP (args := #[]) (mvT hZ (wi hw 108 rfl)) (Cond.privateMethod_at (args := #[]) (mvT hZ (wi hw 107 rfl))) (mvT hZ (wi hw 106 rfl)) (by decide)) (Cond.privateMethod_at (args := #[]) (mvT hZ (wi hw 107 rfl))) (mvT hZ (wi hw 109 rfl)) (by decide) (backOf (W := 0) (rm_ens0 l Z a0 hw [] b (Int32.ofNat (17 + n)) u ku (34 : Int32) (0 : Int32) _ T2.heap n0 Z0 F_value_b F_coder_b V_u (by rcases hn with rfl | rfl | rfl <;> decide)) hZ (wi hw 109 rfl) (wi hw 74 rfl) (by decide) (by decide)) (g := (mkF m 21 #[.val (.ref b), .val (.ref a2), .val (.int (Int32.ofNat n))] [(.int (Int32.ofNat (17 + n))), (.ref b)])) rfl (by rw [hml]; rfl) (Steps.refl _) (a := b) (by rw [e5]; exact xh9) (VmData.noStatics_of xs9) (argsL := [(.int (Int32.ofNat (17 + n)))]) (rest := []) (lenOf pd32_ rfl) rfl (by show 2 * 0 + _ ≤ _; exact Nat.le_of_eq rfl) (hb hby d34_21) (fun _ _ => ⟨rfl, e5, (by decide : 0 + 0 ≤ _), (by decide : 0 + 0 ≤ _)⟩)
  dsimp only [Pt.U, Pt.locs, Pt.cells, Pt.slots] at X9 l9 y9 z9 st9 hQ9
  subst l9 y9 z9
  obtain ⟨rfl, N9q, g9⟩ := hQ9
  have K0 := own_ks g9 K0
  rw [← g9] at E_b F_value_b F_coder_b F_count_b F_maybeLatin1_b E_a2 C_a2 V_a2 A_t V_u Z0
  have N9 := Fr.app N2 N9q
  have go10 : Go p e below T9 (mkF m 24 #[.val (.ref b), .val (.ref a2), .val (.int (Int32.ofNat n))] []) S0 := fun t kt => go8 t (st9.trans kt)
  have go11 : Go p e below T9 (mkF m 26 #[.val (.ref b), .val (.ref a2), .val (.int (Int32.ofNat n))] [(.ref b), (.ref b)]) S0 := by
    intro tt kt
    refine go10 tt ?_
    refine XS.aloadN X9.here hx rfl (hb hby d34_24) rfl rfl ?_
    refine XS.aloadN X9.here hx rfl (hb hby d34_25) rfl rfl ?_
    exact kt
  obtain ⟨T12, X12, e12, st12⟩ := getF X9 hx hZ hown (host := "") (Or.inl (wi hw 103 rfl)) Via.refl rfl F_count_b (g := (mkF m 26 #[.val (.ref b), .val (.ref a2), .val (.int (Int32.ofNat n))] [(.ref b), (.ref b)])) rfl rfl (hb hby d34_26)
  have go13 : Go p e below T12 (mkF m 29 #[.val (.ref b), .val (.ref a2), .val (.int (Int32.ofNat n))] [(.int (17 : Int32)), (.ref b)]) S0 := fun t kt => go11 t (st12 _ kt)
  have lt_b := E_b.lt
  have go14 : Go p e below T12 (mkF m 30 #[.val (.ref b), .val (.ref a2), .val (.int (Int32.ofNat n))] [(.ref a2), (.int (17 : Int32)), (.ref b)]) S0 := by
    intro tt kt
    refine go13 tt ?_
    refine XS.aloadN X12.here hx rfl (hb hby d34_29) rfl rfl ?_
    exact kt
  obtain ⟨xc15, xk15, xh15, -, -, xs15, -⟩ := id E_b
  obtain ⟨_, _, ⟨T15, L15, k15, n15⟩, -, X15, ⟨Lc15, hQ15, l15, y15, z15⟩, st15⟩ := X12.privateBack hx (y := y9_) hown (mvT hZ (wi hw 136 rfl)) (mvT hZ (wi hw 137 rfl)) (own_selP (args := #[]) (mvT hZ (wi hw 139 rfl)) (Cond.privateMethod_at (args := #[]) (mvT hZ (wi hw 138 rfl))) (mvT hZ (wi hw 137 rfl)) (by decide)) (Cond.privateMethod_at (args := #[]) (mvT hZ (wi hw 138 rfl))) (mvT hZ (wi hw 140 rfl)) (by decide) (backOf (W := 0) (rm_put1 l Z a0 hw [] b a2 t kt u ku ds fm zc T9.heap n0 Z0 (oO O0 K0 hn0 (allS g_b all0)) hn0 S_CS P5 S_AD S_HI S_LO S_SI rf E_b F_value_b F_coder_b F_count_b F_maybeLatin1_b E_a2 C_a2 V_a2 A_t g_b V_u ne_a2_b ne_t_b (by omega)) hZ (wi hw 140 rfl) (wi hw 74 rfl) (by decide) (by decide)) (g := (mkF m 30 #[.val (.ref b), .val (.ref a2), .val (.int (Int32.ofNat n))] [(.ref a2), (.int (17 : Int32)), (.ref b)])) rfl (by rw [hml]; rfl) (Steps.refl _) (a := b) (by rw [e12]; exact xh15) (VmData.noStatics_of xs15) (argsL := [(.int (17 : Int32)), (.ref a2)]) (rest := []) (lenOf pd10_ rfl) rfl (by show 2 * 0 + _ ≤ _; exact Nat.le_of_eq rfl) (hb hby d34_30) (fun _ _ => ⟨rfl, e12, (by decide : 0 + 1 ≤ _), (by decide : 0 + 68 ≤ _)⟩)
  dsimp only [Pt.U, Pt.locs, Pt.cells, Pt.slots] at X15 l15 y15 z15 st15 hQ15
  subst l15 y15 z15
  obtain ⟨r, kr, rfl, N15q, K15, E_b, F_value_b, F_coder_b, F_count_b, F_maybeLatin1_b, V_r, sz_r⟩ := hQ15
  have K0 := K0.trans K15 (allS (Or.inl (List.mem_cons_self ..)) all0)
  have Z0 := Nat.le_trans Z0 K15.1
  have ne_r_b : r ≠ b := oL lt_b sz_r
  have N15 := Fr.app N9 N15q
  have go16 : Go p e below T15 (mkF m 33 #[.val (.ref b), .val (.ref a2), .val (.int (Int32.ofNat n))] []) S0 := fun t kt => go14 t (st15.trans kt)
  have go17 : Go p e below T15 (mkF m 35 #[.val (.ref b), .val (.ref a2), .val (.int (Int32.ofNat n))] [(.ref b), (.ref b)]) S0 := by
    intro tt kt
    refine go16 tt ?_
    refine XS.aloadN X15.here hx rfl (hb hby d34_33) rfl rfl ?_
    refine XS.dup X15.here hx rfl (hb hby d34_34) rfl rfl ?_
    exact kt
  obtain ⟨T18, X18, e18, st18⟩ := getF X15 hx hZ hown (host := "") (Or.inl (wi hw 103 rfl)) Via.refl rfl F_count_b (g := (mkF m 35 #[.val (.ref b), .val (.ref a2), .val (.int (Int32.ofNat n))] [(.ref b), (.ref b)])) rfl rfl (hb hby d34_35)
  have go19 : Go p e below T18 (mkF m 38 #[.val (.ref b), .val (.ref a2), .val (.int (Int32.ofNat n))] [(.int (17 : Int32)), (.ref b)]) S0 := fun t kt => go17 t (st18 _ kt)
  have go20 : Go p e below T18 (mkF m 40 #[.val (.ref b), .val (.ref a2), .val (.int (Int32.ofNat n))] [(.int ((17 : Int32) + (Int32.ofNat n))), (.ref b)]) S0 := by
    intro tt kt
    refine go19 tt ?_
    refine XS.iloadN X18.here hx rfl (hb hby d34_38) rfl ?_
    refine XS.iadd X18.here hx rfl (hb hby d34_39) rfl ?_
    exact kt
  have cv21 : ((17 : Int32) + (Int32.ofNat n)) = (Int32.ofNat (17 + n)) := (own_add17 n)
  have go21 : Go p e below T18 (mkF m 40 #[.val (.ref b), .val (.ref a2), .val (.int (Int32.ofNat n))] [(.int (Int32.ofNat (17 + n))), (.ref b)]) S0 := by have q := go20; rw [cv21] at q; exact q
  obtain ⟨T22, h22, X22, e22, W22, st22⟩ := putF X18 hx hZ hown (host := "") (Or.inl (wi hw 103 rfl)) Via.refl e18 F_count_b E_b (Or.inl (wi hw 104 rfl)) (wi hw 65 rfl) (ty := .int) (by decide) rfl rfl (g := (mkF m 40 #[.val (.ref b), .val (.ref a2), .val (.int (Int32.ofNat n))] [(.int (Int32.ofNat (17 + n))), (.ref b)])) rfl rfl (hb hby d34_40)
  have E_b := E_b.wr W22
  have F_value_b := F_value_b.other W22 (Or.inr (slot_ne (Or.inl (wi hw 79 rfl)) (Or.inl (wi hw 104 rfl)) (by decide) (t := (.array .byte)) (t' := .int) (by decide) (by decide)))
  have F_coder_b := F_coder_b.other W22 (Or.inr (slot_ne (Or.inl (wi hw 81 rfl)) (Or.inl (wi hw 104 rfl)) (by decide) (t := .byte) (t' := .int) (by decide) (by decide)))
  have F_maybeLatin1_b := F_maybeLatin1_b.other W22 (Or.inr (slot_ne (Or.inl (wi hw 322 rfl)) (Or.inl (wi hw 104 rfl)) (by decide) (t := .boolean) (t' := .int) (by decide) (by decide)))
  have V_r := V_r.other W22 ne_r_b
  have F_count_b := F_count_b.same W22
  have Z0 := Nat.le_trans Z0 (Keep.of_wr W22).1
  have K0 := K0.wr W22 (Or.inl (List.mem_of_getElem? (i := 0) rfl))
  have N22r := Fr.snoc X22 N15 g_b
  have go23 : Go p e below T22 (mkF m 43 #[.val (.ref b), .val (.ref a2), .val (.int (Int32.ofNat n))] []) S0 := fun t kt => go21 t (st22 _ kt)
  have go24 : Go p e below T22 (mkF m 44 #[.val (.ref b), .val (.ref a2), .val (.int (Int32.ofNat n))] [(.ref b)]) S0 := by
    intro tt kt
    refine go23 tt ?_
    refine XS.aloadN X22.here hx rfl (hb hby d34_43) rfl rfl ?_
    exact kt
  exact own_leaveO X22 hx hret hlk (hb hby d34_44) go24 e22 (⟨r, kr, rfl, N22r, K0, E_b, F_value_b, F_coder_b, F_count_b, F_maybeLatin1_b, V_r⟩) (by decide) (by decide)
def own_NB : List Value := [.int (110 : Int32), .int (117 : Int32), .int (108 : Int32), .int (108 : Int32)]
theorem own_NBl : own_NB.length = 4 := rfl
theorem pnj_35 : plainName "java/lang/AbstractStringBuilder" = true := by first | (simp [plainName, overriddenIn]; done) | decide +kernel
theorem efj_rm_apn (m : MethodId) (b : Addr) : entryFrame m #[(.ref b)] 3 = mkF m 0 #[.val (.ref b), .unset, .unset] [] := by first | (simp [entryFrame, mkF, argsToLocals, Value.category]; done) | rfl
theorem d35_0 : Dc c45 0 (.aload_n 0) 1 := by decide +kernel
theorem d35_1 : Dc c45 1 (.aload_n 0) 1 := by decide +kernel
theorem d35_2 : Dc c45 2 (.getfield 79) 3 := by decide +kernel
theorem d35_5 : Dc c45 5 (.iconst 4) 1 := by decide +kernel
theorem d35_6 : Dc c45 6 (.iadd) 1 := by decide +kernel
theorem d35_7 : Dc c45 7 (.invokevirtual 100) 3 := by decide +kernel
theorem d35_10 : Dc c45 10 (.aload_n 0) 1 := by decide +kernel
theorem d35_11 : Dc c45 11 (.getfield 79) 3 := by decide +kernel
theorem d35_14 : Dc c45 14 (.istore_n 1) 1 := by decide +kernel
theorem d35_15 : Dc c45 15 (.aload_n 0) 1 := by decide +kernel
theorem d35_16 : Dc c45 16 (.getfield 15) 3 := by decide +kernel
theorem d35_19 : Dc c45 19 (.astore_n 2) 1 := by decide +kernel
theorem d35_20 : Dc c45 20 (.aload_n 0) 1 := by decide +kernel
theorem d35_21 : Dc c45 21 (.invokevirtual 83) 3 := by decide +kernel
theorem d35_24 : Dc c45 24 (.ifCond .eq 38) 3 := by decide +kernel
theorem d35_27 : Dc c45 27 (.aload_n 2) 1 := by decide +kernel
theorem d35_28 : Dc c45 28 (.iload_n 1) 1 := by decide +kernel
theorem d35_29 : Dc c45 29 (.iinc 1 1) 3 := by decide +kernel
theorem d35_32 : Dc c45 32 (.bipush 110) 2 := by decide +kernel
theorem d35_34 : Dc c45 34 (.bastore) 1 := by decide +kernel
theorem d35_35 : Dc c45 35 (.aload_n 2) 1 := by decide +kernel
theorem d35_36 : Dc c45 36 (.iload_n 1) 1 := by decide +kernel
theorem d35_37 : Dc c45 37 (.iinc 1 1) 3 := by decide +kernel
theorem d35_40 : Dc c45 40 (.bipush 117) 2 := by decide +kernel
theorem d35_42 : Dc c45 42 (.bastore) 1 := by decide +kernel
theorem d35_43 : Dc c45 43 (.aload_n 2) 1 := by decide +kernel
theorem d35_44 : Dc c45 44 (.iload_n 1) 1 := by decide +kernel
theorem d35_45 : Dc c45 45 (.iinc 1 1) 3 := by decide +kernel
theorem d35_48 : Dc c45 48 (.bipush 108) 2 := by decide +kernel
theorem d35_50 : Dc c45 50 (.bastore) 1 := by decide +kernel
theorem d35_51 : Dc c45 51 (.aload_n 2) 1 := by decide +kernel
theorem d35_52 : Dc c45 52 (.iload_n 1) 1 := by decide +kernel
theorem d35_53 : Dc c45 53 (.iinc 1 1) 3 := by decide +kernel
theorem d35_56 : Dc c45 56 (.bipush 108) 2 := by decide +kernel
theorem d35_58 : Dc c45 58 (.bastore) 1 := by decide +kernel
theorem d35_59 : Dc c45 59 (.goto 17) 3 := by decide +kernel
theorem d35_76 : Dc c45 76 (.aload_n 0) 1 := by decide +kernel
theorem d35_77 : Dc c45 77 (.iload_n 1) 1 := by decide +kernel
theorem d35_78 : Dc c45 78 (.putfield 79) 3 := by decide +kernel
theorem d35_81 : Dc c45 81 (.aload_n 0) 1 := by decide +kernel
theorem d35_82 : Dc c45 82 (.areturn) 1 := by decide +kernel
def Q_rm_apn (Z : State) (b : Addr) (u : Addr) (ku : ClassId) (zc : Int32) (h0 : Heap) (n0 : Nat) (v : Option Value) (h : Heap) (L : List Loc) : Prop := v = some (.ref b) ∧ Fr n0 L ∧ Keep h0 h [b, u] ∧ Exa Z h b "java/lang/StringBuilder" ∧ Fld Z h b "java/lang/AbstractStringBuilder" "value" "[B" (.ref u) ∧ Fld Z h b "java/lang/AbstractStringBuilder" "coder" "B" (.int (0 : Int32)) ∧ Fld Z h b "java/lang/AbstractStringBuilder" "count" "I" (.int (Int32.ofNat (17 + 4))) ∧ Fld Z h b "java/lang/AbstractStringBuilder" "maybeLatin1" "Z" (.int (0 : Int32)) ∧ Arv Z h u ku .byte (34 : Int32) (own_DL own_NB) (.int (0 : Int32))
theorem rm_apn (l : Launch) (Z : State) (a0 : Array Value) (hw : Hw a0 Z) (ws : List Jvm.Cond) (b : Addr) (u : Addr) (ku : ClassId) (zc : Int32) (h0 : Heap) (n0 : Nat) (Z0 : n0 ≤ h0.size) (O0 : Ext Z.heap h0) (hn0 : Z.heap.size ≤ n0) (S_CS : Sta Z Z.heap "java/lang/String" "COMPACT_STRINGS" "Z" (.int zc)) (P5 : ¬ zc = (0 : Int32)) (E_b : Exa Z h0 b "java/lang/StringBuilder") (F_value_b : Fld Z h0 b "java/lang/AbstractStringBuilder" "value" "[B" (.ref u)) (F_coder_b : Fld Z h0 b "java/lang/AbstractStringBuilder" "coder" "B" (.int (0 : Int32))) (F_count_b : Fld Z h0 b "java/lang/AbstractStringBuilder" "count" "I" (.int (17 : Int32))) (F_maybeLatin1_b : Fld Z h0 b "java/lang/AbstractStringBuilder" "maybeLatin1" "Z" (.int (0 : Int32))) (g_b : n0 ≤ b) (g_u : n0 ≤ u) (V_u : Arv Z h0 u ku .byte (34 : Int32) own_L34 (.int (0 : Int32))) (ne_b_u : b ≠ u) :
    MF l y41_ jdk_68_method_26_code 3 (some (.object "java/lang/AbstractStringBuilder")) ws (rM 1 0 0 14) #[(.ref b)] Z h0 (Q_rm_apn Z b u ku zc h0 n0) := by
  refine own_bodyF n0 (plainFor_of_name pnj_35) (fun m => efj_rm_apn m b) ?_
  intro p e s m below meth c s₁ S0 hx hby hml hZ hown hnm hret hlk X0 e0 hh N0 hK go0
  have K0 : Keep h0 h0 [b, u] := Keep.refl h0 [b, u]
  have ne_u_b := ne_b_u.symm
  have go1 : Go p e below s₁ (mkF m 2 #[.val (.ref b), .unset, .unset] [(.ref b), (.ref b)]) S0 := by
    intro tt kt
    refine go0 tt ?_
    refine XS.aloadN X0.here hx rfl (hb hby d35_0) rfl rfl ?_
    refine XS.aloadN X0.here hx rfl (hb hby d35_1) rfl rfl ?_
    exact kt
  obtain ⟨T2, X2, e2, st2⟩ := getF X0 hx hZ hown (host := "") (Or.inl (wi hw 103 rfl)) Via.refl e0 F_count_b (g := (mkF m 2 #[.val (.ref b), .unset, .unset] [(.ref b), (.ref b)])) rfl rfl (hb hby d35_2)
  have go3 : Go p e below T2 (mkF m 5 #[.val (.ref b), .unset, .unset] [(.int (17 : Int32)), (.ref b)]) S0 := fun t kt => go1 t (st2 _ kt)
  have go4 : Go p e below T2 (mkF m 7 #[.val (.ref b), .unset, .unset] [(.int (21 : Int32)), (.ref b)]) S0 := by
    intro tt kt
    refine go3 tt ?_
    refine XS.iconst X2.here hx rfl (hb hby d35_5) ?_
    refine XS.iadd X2.here hx rfl (hb hby d35_6) rfl ?_
    exact kt
  obtain ⟨xc5, xk5, xh5, -, -, xs5, -⟩ := id E_b
  obtain ⟨_, _, ⟨T5, L5, k5, n5⟩, -, X5, ⟨Lc5, hQ5, l5, y5, z5⟩, st5⟩ := X2.privateBack hx (y := y7_) hown (mvT hZ (wi hw 105 rfl)) (mvT hZ (wi hw 106 rfl)) (own_selP (args := #[]) (mvT hZ (wi hw 108 rfl)) (Cond.privateMethod_at (args := #[]) (mvT hZ (wi hw 107 rfl))) (mvT hZ (wi hw 106 rfl)) (by decide)) (Cond.privateMethod_at (args := #[]) (mvT hZ (wi hw 107 rfl))) (mvT hZ (wi hw 109 rfl)) (by decide) (backOf (W := 0) (rm_ens0 l Z a0 hw [] b (21 : Int32) u ku (34 : Int32) (0 : Int32) _ h0 n0 Z0 F_value_b F_coder_b V_u (by decide)) hZ (wi hw 109 rfl) (wi hw 74 rfl) (by decide) (by decide)) (g := (mkF m 7 #[.val (.ref b), .unset, .unset] [(.int (21 : Int32)), (.ref b)])) rfl (by rw [hml]; rfl) (Steps.refl _) (a := b) (by rw [e2]; exact xh5) (VmData.noStatics_of xs5) (argsL := [(.int (21 : Int32))]) (rest := []) (lenOf pd32_ rfl) rfl (by show 2 * 0 + _ ≤ _; exact Nat.le_of_eq rfl) (hb hby d35_7) (fun _ _ => ⟨rfl, e2, (by decide : 0 + 0 ≤ _), (by decide : 0 + 0 ≤ _)⟩)
  dsimp only [Pt.U, Pt.locs, Pt.cells, Pt.slots] at X5 l5 y5 z5 st5 hQ5
  subst l5 y5 z5
  obtain ⟨rfl, N5q, g5⟩ := hQ5
  have K0 := own_ks g5 K0
  rw [← g5] at E_b F_value_b F_coder_b F_count_b F_maybeLatin1_b V_u Z0
  have N5 := Fr.app N0 N5q
  have go6 : Go p e below T5 (mkF m 10 #[.val (.ref b), .unset, .unset] []) S0 := fun t kt => go4 t (st5.trans kt)
  have go7 : Go p e below T5 (mkF m 11 #[.val (.ref b), .unset, .unset] [(.ref b)]) S0 := by
    intro tt kt
    refine go6 tt ?_
    refine XS.aloadN X5.here hx rfl (hb hby d35_10) rfl rfl ?_
    exact kt
  obtain ⟨T8, X8, e8, st8⟩ := getF X5 hx hZ hown (host := "") (Or.inl (wi hw 103 rfl)) Via.refl rfl F_count_b (g := (mkF m 11 #[.val (.ref b), .unset, .unset] [(.ref b)])) rfl rfl (hb hby d35_11)
  have go9 : Go p e below T8 (mkF m 14 #[.val (.ref b), .unset, .unset] [(.int (17 : Int32))]) S0 := fun t kt => go7 t (st8 _ kt)
  have go10 : Go p e below T8 (mkF m 16 #[.val (.ref b), .val (.int (17 : Int32)), .unset] [(.ref b)]) S0 := by
    intro tt kt
    refine go9 tt ?_
    refine XS.istoreN X8.here hx rfl (hb hby d35_14) rfl (l' := #[.val (.ref b), .val (.int (17 : Int32)), .unset]) rfl ?_
    refine XS.aloadN X8.here hx rfl (hb hby d35_15) rfl rfl ?_
    exact kt
  obtain ⟨T11, X11, e11, st11⟩ := getF X8 hx hZ hown (host := "") (Or.inl (wi hw 78 rfl)) Via.refl e8 F_value_b (g := (mkF m 16 #[.val (.ref b), .val (.int (17 : Int32)), .unset] [(.ref b)])) rfl rfl (hb hby d35_16)
  have go12 : Go p e below T11 (mkF m 19 #[.val (.ref b), .val (.int (17 : Int32)), .unset] [(.ref u)]) S0 := fun t kt => go10 t (st11 _ kt)
  have go13 : Go p e below T11 (mkF m 21 #[.val (.ref b), .val (.int (17 : Int32)), .val (.ref u)] [(.ref b)]) S0 := by
    intro tt kt
    refine go12 tt ?_
    refine XS.astoreN X11.here hx rfl (hb hby d35_19) rfl rfl (l' := #[.val (.ref b), .val (.int (17 : Int32)), .val (.ref u)]) rfl ?_
    refine XS.aloadN X11.here hx rfl (hb hby d35_20) rfl rfl ?_
    exact kt
  obtain ⟨cq14, kq14, q14a, q14b, q14c⟩ := isOf hZ e11 E_b
  obtain ⟨_, _, ⟨T14, L14, k14, n14⟩, -, X14, ⟨Lc14, hQ14, l14, y14, z14⟩, st14⟩ := X11.virtualBack hx (y := y2_) (z := y2_) hown (mvT hZ (wi hw 277 rfl)) (mvT hZ (wi hw 179 rfl)) (notFace_of_selects (args := #[]) (mvT hZ (wi hw 181 rfl))) (mvT hZ (wi hw 181 rfl)) (mvT hZ (wi hw 180 rfl)) (by decide) (backOf (W := 0) (rm_isl0 l Z a0 hw [] b zc T5.heap n0 Z0 (oO O0 K0 hn0 (allS g_b (allS g_u all0))) hn0 S_CS P5 F_coder_b) hZ (wi hw 182 rfl) (wi hw 74 rfl) (by decide) (by decide)) q14a q14c (g := (mkF m 21 #[.val (.ref b), .val (.int (17 : Int32)), .val (.ref u)] [(.ref b)])) rfl (by rw [hml]; rfl) (Steps.refl _) (argsL := []) (rest := []) (lenOf pd35_ rfl) rfl (by show 2 * 0 + _ ≤ _; exact Nat.le_of_eq rfl) (hb hby d35_21) (fun _ _ => ⟨rfl, e11, (by decide : 0 + 0 ≤ _), (by decide : 0 + 0 ≤ _)⟩)
  dsimp only [Pt.U, Pt.locs, Pt.cells, Pt.slots] at X14 l14 y14 z14 st14 hQ14
  subst l14 y14 z14
  obtain ⟨rfl, N14q, g14⟩ := hQ14
  have K0 := own_ks g14 K0
  rw [← g14] at E_b F_value_b F_coder_b F_count_b F_maybeLatin1_b V_u Z0
  have N14 := Fr.app N5 N14q
  have go15 : Go p e below T14 (mkF m 24 #[.val (.ref b), .val (.int (17 : Int32)), .val (.ref u)] [(.int (1 : Int32))]) S0 := fun t kt => go13 t (st14.trans kt)
  have hz : (34 : Int32).toNatClampNeg = 34 := rfl
  have hL := own_l34
  have j17 : (17 : Int32).toNatClampNeg = 17 := rfl
  have go16 : Go p e below T14 (mkF m 34 #[.val (.ref b), .val (.int (18 : Int32)), .val (.ref u)] [(.int (110 : Int32)), (.int (17 : Int32)), (.ref u)]) S0 := by
    intro tt kt
    refine go15 tt ?_
    refine XS.ifNo X14.here hx rfl (hb hby d35_24) rfl ((if0 _ _).trans (feq (by decide)).1) ?_
    refine XS.aloadN X14.here hx rfl (hb hby d35_27) rfl rfl ?_
    refine XS.iloadN X14.here hx rfl (hb hby d35_28) rfl ?_
    refine XS.iinc X14.here hx rfl (hb hby d35_29) rfl (l' := #[.val (.ref b), .val (.int (18 : Int32)), .val (.ref u)]) rfl ?_
    refine XS.bipush X14.here hx rfl (hb hby d35_32) ?_
    exact kt
  obtain ⟨cl17, Ar17, q17, S17, N17, H17, G17⟩ := V_u
  obtain ⟨T17, h17, X17, e17, W17, st17⟩ := stB X14 hx hZ rfl Ar17 (j := (17 : Int32)) (fun q => q.elim (by decide) fun q => by rw [S17, hz, j17] at q; omega) (g := (mkF m 34 #[.val (.ref b), .val (.int (18 : Int32)), .val (.ref u)] [(.int (110 : Int32)), (.int (17 : Int32)), (.ref u)])) rfl rfl (hb hby d35_34)
  have E_b := E_b.wr W17
  have F_value_b := F_value_b.other W17 (Or.inl ne_b_u)
  have F_coder_b := F_coder_b.other W17 (Or.inl ne_b_u)
  have F_count_b := F_count_b.other W17 (Or.inl ne_b_u)
  have F_maybeLatin1_b := F_maybeLatin1_b.other W17 (Or.inl ne_b_u)
  have V_u := Arv.set Ar17 q17 S17 N17 H17 G17 (fits_nar_byte _) W17 (17) j17 (by first | omega | (simp only [List.length_set]; omega))
  have Z0 := Nat.le_trans Z0 (Keep.of_wr W17).1
  have K0 := K0.wr W17 (Or.inl (List.mem_of_getElem? (i := 1) rfl))
  have N17r := Fr.snoc X17 N14 g_u
  have go18 : Go p e below T17 (mkF m 35 #[.val (.ref b), .val (.int (18 : Int32)), .val (.ref u)] []) S0 := fun t kt => go16 t (st17 _ kt)
  have j18 : (18 : Int32).toNatClampNeg = 18 := rfl
  have go19 : Go p e below T17 (mkF m 42 #[.val (.ref b), .val (.int (19 : Int32)), .val (.ref u)] [(.int (117 : Int32)), (.int (18 : Int32)), (.ref u)]) S0 := by
    intro tt kt
    refine go18 tt ?_
    refine XS.aloadN X17.here hx rfl (hb hby d35_35) rfl rfl ?_
    refine XS.iloadN X17.here hx rfl (hb hby d35_36) rfl ?_
    refine XS.iinc X17.here hx rfl (hb hby d35_37) rfl (l' := #[.val (.ref b), .val (.int (19 : Int32)), .val (.ref u)]) rfl ?_
    refine XS.bipush X17.here hx rfl (hb hby d35_40) ?_
    exact kt
  obtain ⟨cl20, Ar20, q20, S20, N20, H20, G20⟩ := V_u
  obtain ⟨T20, h20, X20, e20, W20, st20⟩ := stB X17 hx hZ e17 Ar20 (j := (18 : Int32)) (fun q => q.elim (by decide) fun q => by rw [S20, hz, j18] at q; omega) (g := (mkF m 42 #[.val (.ref b), .val (.int (19 : Int32)), .val (.ref u)] [(.int (117 : Int32)), (.int (18 : Int32)), (.ref u)])) rfl rfl (hb hby d35_42)
  have E_b := E_b.wr W20
  have F_value_b := F_value_b.other W20 (Or.inl ne_b_u)
  have F_coder_b := F_coder_b.other W20 (Or.inl ne_b_u)
  have F_count_b := F_count_b.other W20 (Or.inl ne_b_u)
  have F_maybeLatin1_b := F_maybeLatin1_b.other W20 (Or.inl ne_b_u)
  have V_u := Arv.set Ar20 q20 S20 N20 H20 G20 (fits_nar_byte _) W20 (18) j18 (by first | omega | (simp only [List.length_set]; omega))
  have Z0 := Nat.le_trans Z0 (Keep.of_wr W20).1
  have K0 := K0.wr W20 (Or.inl (List.mem_of_getElem? (i := 1) rfl))
  have N20r := Fr.snoc X20 N17r g_u
  have go21 : Go p e below T20 (mkF m 43 #[.val (.ref b), .val (.int (19 : Int32)), .val (.ref u)] []) S0 := fun t kt => go19 t (st20 _ kt)
  have j19 : (19 : Int32).toNatClampNeg = 19 := rfl
  have go22 : Go p e below T20 (mkF m 50 #[.val (.ref b), .val (.int (20 : Int32)), .val (.ref u)] [(.int (108 : Int32)), (.int (19 : Int32)), (.ref u)]) S0 := by
    intro tt kt
    refine go21 tt ?_
    refine XS.aloadN X20.here hx rfl (hb hby d35_43) rfl rfl ?_
    refine XS.iloadN X20.here hx rfl (hb hby d35_44) rfl ?_
    refine XS.iinc X20.here hx rfl (hb hby d35_45) rfl (l' := #[.val (.ref b), .val (.int (20 : Int32)), .val (.ref u)]) rfl ?_
    refine XS.bipush X20.here hx rfl (hb hby d35_48) ?_
    exact kt
  obtain ⟨cl23, Ar23, q23, S23, N23, H23, G23⟩ := V_u
  obtain ⟨T23, h23, X23, e23, W23, st23⟩ := stB X20 hx hZ e20 Ar23 (j := (19 : Int32)) (fun q => q.elim (by decide) fun q => by rw [S23, hz, j19] at q; omega) (g := (mkF m 50 #[.val (.ref b), .val (.int (20 : Int32)), .val (.ref u)] [(.int (108 : Int32)), (.int (19 : Int32)), (.ref u)])) rfl rfl (hb hby d35_50)
  have E_b := E_b.wr W23
  have F_value_b := F_value_b.other W23 (Or.inl ne_b_u)
  have F_coder_b := F_coder_b.other W23 (Or.inl ne_b_u)
  have F_count_b := F_count_b.other W23 (Or.inl ne_b_u)
  have F_maybeLatin1_b := F_maybeLatin1_b.other W23 (Or.inl ne_b_u)
  have V_u := Arv.set Ar23 q23 S23 N23 H23 G23 (fits_nar_byte _) W23 (19) j19 (by first | omega | (simp only [List.length_set]; omega))
  have Z0 := Nat.le_trans Z0 (Keep.of_wr W23).1
  have K0 := K0.wr W23 (Or.inl (List.mem_of_getElem? (i := 1) rfl))
  have N23r := Fr.snoc X23 N20r g_u
  have go24 : Go p e below T23 (mkF m 51 #[.val (.ref b), .val (.int (20 : Int32)), .val (.ref u)] []) S0 := fun t kt => go22 t (st23 _ kt)
  have j20 : (20 : Int32).toNatClampNeg = 20 := rfl
  have go25 : Go p e below T23 (mkF m 58 #[.val (.ref b), .val (.int (21 : Int32)), .val (.ref u)] [(.int (108 : Int32)), (.int (20 : Int32)), (.ref u)]) S0 := by
    intro tt kt
    refine go24 tt ?_
    refine XS.aloadN X23.here hx rfl (hb hby d35_51) rfl rfl ?_
    refine XS.iloadN X23.here hx rfl (hb hby d35_52) rfl ?_
    refine XS.iinc X23.here hx rfl (hb hby d35_53) rfl (l' := #[.val (.ref b), .val (.int (21 : Int32)), .val (.ref u)]) rfl ?_
    refine XS.bipush X23.here hx rfl (hb hby d35_56) ?_
    exact kt
  obtain ⟨cl26, Ar26, q26, S26, N26, H26, G26⟩ := V_u
  obtain ⟨T26, h26, X26, e26, W26, st26⟩ := stB X23 hx hZ e23 Ar26 (j := (20 : Int32)) (fun q => q.elim (by decide) fun q => by rw [S26, hz, j20] at q; omega) (g := (mkF m 58 #[.val (.ref b), .val (.int (21 : Int32)), .val (.ref u)] [(.int (108 : Int32)), (.int (20 : Int32)), (.ref u)])) rfl rfl (hb hby d35_58)
  have E_b := E_b.wr W26
  have F_value_b := F_value_b.other W26 (Or.inl ne_b_u)
  have F_coder_b := F_coder_b.other W26 (Or.inl ne_b_u)
  have F_count_b := F_count_b.other W26 (Or.inl ne_b_u)
  have F_maybeLatin1_b := F_maybeLatin1_b.other W26 (Or.inl ne_b_u)
  have V_u := Arv.set Ar26 q26 S26 N26 H26 G26 (fits_nar_byte _) W26 (20) j20 (by first | omega | (simp only [List.length_set]; omega))
  have Z0 := Nat.le_trans Z0 (Keep.of_wr W26).1
  have K0 := K0.wr W26 (Or.inl (List.mem_of_getElem? (i := 1) rfl))
  have N26r := Fr.snoc X26 N23r g_u
  have go27 : Go p e below T26 (mkF m 59 #[.val (.ref b), .val (.int (21 : Int32)), .val (.ref u)] []) S0 := fun t kt => go25 t (st26 _ kt)
  have V_u : Arv Z h26 u ku .byte (34 : Int32) (own_DL own_NB) (.int (0 : Int32)) := oA V_u (by decide +kernel)
  have go28 : Go p e below T26 (mkF m 78 #[.val (.ref b), .val (.int (21 : Int32)), .val (.ref u)] [(.int (21 : Int32)), (.ref b)]) S0 := by
    intro tt kt
    refine go27 tt ?_
    refine XS.goto X26.here hx rfl (pc0 := 59) (pc' := 76) rfl (hb hby d35_59) (by decide) (by decide) ?_
    refine XS.aloadN X26.here hx rfl (hb hby d35_76) rfl rfl ?_
    refine XS.iloadN X26.here hx rfl (hb hby d35_77) rfl ?_
    exact kt
  have cv29 : (21 : Int32) = (Int32.ofNat (17 + 4)) := (by decide)
  have go29 : Go p e below T26 (mkF m 78 #[.val (.ref b), .val (.int (Int32.ofNat (17 + 4))), .val (.ref u)] [(.int (Int32.ofNat (17 + 4))), (.ref b)]) S0 := by have q := go28; rw [cv29] at q; exact q
  obtain ⟨T30, h30, X30, e30, W30, st30⟩ := putF X26 hx hZ hown (host := "") (Or.inl (wi hw 103 rfl)) Via.refl e26 F_count_b E_b (Or.inl (wi hw 104 rfl)) (wi hw 65 rfl) (ty := .int) (by decide) rfl rfl (g := (mkF m 78 #[.val (.ref b), .val (.int (Int32.ofNat (17 + 4))), .val (.ref u)] [(.int (Int32.ofNat (17 + 4))), (.ref b)])) rfl rfl (hb hby d35_78)
  have E_b := E_b.wr W30
  have F_value_b := F_value_b.other W30 (Or.inr (slot_ne (Or.inl (wi hw 79 rfl)) (Or.inl (wi hw 104 rfl)) (by decide) (t := (.array .byte)) (t' := .int) (by decide) (by decide)))
  have F_coder_b := F_coder_b.other W30 (Or.inr (slot_ne (Or.inl (wi hw 81 rfl)) (Or.inl (wi hw 104 rfl)) (by decide) (t := .byte) (t' := .int) (by decide) (by decide)))
  have F_maybeLatin1_b := F_maybeLatin1_b.other W30 (Or.inr (slot_ne (Or.inl (wi hw 322 rfl)) (Or.inl (wi hw 104 rfl)) (by decide) (t := .boolean) (t' := .int) (by decide) (by decide)))
  have V_u := V_u.other W30 ne_u_b
  have F_count_b := F_count_b.same W30
  have Z0 := Nat.le_trans Z0 (Keep.of_wr W30).1
  have K0 := K0.wr W30 (Or.inl (List.mem_of_getElem? (i := 0) rfl))
  have N30r := Fr.snoc X30 N26r g_b
  have go31 : Go p e below T30 (mkF m 81 #[.val (.ref b), .val (.int (Int32.ofNat (17 + 4))), .val (.ref u)] []) S0 := fun t kt => go29 t (st30 _ kt)
  have go32 : Go p e below T30 (mkF m 82 #[.val (.ref b), .val (.int (Int32.ofNat (17 + 4))), .val (.ref u)] [(.ref b)]) S0 := by
    intro tt kt
    refine go31 tt ?_
    refine XS.aloadN X30.here hx rfl (hb hby d35_81) rfl rfl ?_
    exact kt
  exact own_leaveO X30 hx hret hlk (hb hby d35_82) go32 e30 (⟨rfl, N30r, K0, E_b, F_value_b, F_coder_b, F_count_b, F_maybeLatin1_b, V_u⟩) (by decide) (by decide)
theorem efj_rm_appN (m : MethodId) (b : Addr) : entryFrame m #[(.ref b), .null] 3 = mkF m 0 #[.val (.ref b), .val .null, .unset] [] := by first | (simp [entryFrame, mkF, argsToLocals, Value.category]; done) | rfl
theorem d34_4 : Dc c44 4 (.aload_n 0) 1 := by decide +kernel
theorem pd6_ : parseMethodDescriptor "()Ljava/lang/AbstractStringBuilder;" = some ⟨[], some (.object "java/lang/AbstractStringBuilder")⟩ := by decide +kernel
theorem d34_5 : Dc c44 5 (.invokevirtual 204) 3 := by decide +kernel
theorem d34_8 : Dc c44 8 (.areturn) 1 := by decide +kernel
def Q_rm_appN (Z : State) (b : Addr) (u : Addr) (ku : ClassId) (zc : Int32) (h0 : Heap) (n0 : Nat) (v : Option Value) (h : Heap) (L : List Loc) : Prop := v = some (.ref b) ∧ Fr n0 L ∧ Keep h0 h [b, u] ∧ Exa Z h b "java/lang/StringBuilder" ∧ Fld Z h b "java/lang/AbstractStringBuilder" "value" "[B" (.ref u) ∧ Fld Z h b "java/lang/AbstractStringBuilder" "coder" "B" (.int (0 : Int32)) ∧ Fld Z h b "java/lang/AbstractStringBuilder" "count" "I" (.int (Int32.ofNat (17 + 4))) ∧ Fld Z h b "java/lang/AbstractStringBuilder" "maybeLatin1" "Z" (.int (0 : Int32)) ∧ Arv Z h u ku .byte (34 : Int32) (own_DL own_NB) (.int (0 : Int32))
theorem rm_appN (l : Launch) (Z : State) (a0 : Array Value) (hw : Hw a0 Z) (ws : List Jvm.Cond) (b : Addr) (u : Addr) (ku : ClassId) (zc : Int32) (h0 : Heap) (n0 : Nat) (Z0 : n0 ≤ h0.size) (O0 : Ext Z.heap h0) (hn0 : Z.heap.size ≤ n0) (S_CS : Sta Z Z.heap "java/lang/String" "COMPACT_STRINGS" "Z" (.int zc)) (P5 : ¬ zc = (0 : Int32)) (E_b : Exa Z h0 b "java/lang/StringBuilder") (F_value_b : Fld Z h0 b "java/lang/AbstractStringBuilder" "value" "[B" (.ref u)) (F_coder_b : Fld Z h0 b "java/lang/AbstractStringBuilder" "coder" "B" (.int (0 : Int32))) (F_count_b : Fld Z h0 b "java/lang/AbstractStringBuilder" "count" "I" (.int (17 : Int32))) (F_maybeLatin1_b : Fld Z h0 b "java/lang/AbstractStringBuilder" "maybeLatin1" "Z" (.int (0 : Int32))) (g_b : n0 ≤ b) (g_u : n0 ≤ u) (V_u : Arv Z h0 u ku .byte (34 : Int32) own_L34 (.int (0 : Int32))) (ne_b_u : b ≠ u) :
    MF l y6_ jdk_68_method_22_code 3 (some (.object "java/lang/AbstractStringBuilder")) ws (rM 2 0 0 28) #[(.ref b), .null] Z h0 (Q_rm_appN Z b u ku zc h0 n0) := by
  refine own_bodyF n0 (plainFor_of_name pnj_34) (fun m => efj_rm_appN m b) ?_
  intro p e s m below meth c s₁ S0 hx hby hml hZ hown hnm hret hlk X0 e0 hh N0 hK go0
  have go1 : Go p e below s₁ (mkF m 5 #[.val (.ref b), .val .null, .unset] [(.ref b)]) S0 := by
    intro tt kt
    refine go0 tt ?_
    refine XS.aloadN X0.here hx rfl (hb hby d34_0) rfl rfl ?_
    refine XS.ifnonnullNo X0.here hx rfl (hb hby d34_1) rfl ?_
    refine XS.aloadN X0.here hx rfl (hb hby d34_4) rfl rfl ?_
    exact kt
  obtain ⟨xc2, xk2, xh2, -, -, xs2, -⟩ := id E_b
  obtain ⟨_, _, ⟨T2, L2, k2, n2⟩, -, X2, ⟨Lc2, hQ2, l2, y2, z2⟩, st2⟩ := X0.privateBack hx (y := y41_) hown (mvT hZ (wi hw 272 rfl)) (mvT hZ (wi hw 273 rfl)) (own_selP (args := #[]) (mvT hZ (wi hw 275 rfl)) (Cond.privateMethod_at (args := #[]) (mvT hZ (wi hw 274 rfl))) (mvT hZ (wi hw 273 rfl)) (by decide)) (Cond.privateMethod_at (args := #[]) (mvT hZ (wi hw 274 rfl))) (mvT hZ (wi hw 276 rfl)) (by decide) (backOf (W := 0) (rm_apn l Z a0 hw [] b u ku zc h0 n0 Z0 O0 hn0 S_CS P5 E_b F_value_b F_coder_b F_count_b F_maybeLatin1_b g_b g_u V_u ne_b_u) hZ (wi hw 276 rfl) (wi hw 74 rfl) (by decide) (by decide)) (g := (mkF m 5 #[.val (.ref b), .val .null, .unset] [(.ref b)])) rfl (by rw [hml]; rfl) (Steps.refl _) (a := b) (by rw [e0]; exact xh2) (VmData.noStatics_of xs2) (argsL := []) (rest := []) (lenOf pd6_ rfl) rfl (by show 2 * 0 + _ ≤ _; exact Nat.le_of_eq rfl) (hb hby d34_5) (fun _ _ => ⟨rfl, e0, (by decide : 0 + 0 ≤ _), (by decide : 0 + 0 ≤ _)⟩)
  dsimp only [Pt.U, Pt.locs, Pt.cells, Pt.slots] at X2 l2 y2 z2 st2 hQ2
  subst l2 y2 z2
  obtain ⟨rfl, N2q, R2⟩ := hQ2
  have N2 := Fr.app N0 N2q
  have go3 : Go p e below T2 (mkF m 8 #[.val (.ref b), .val .null, .unset] [(.ref b)]) S0 := fun t kt => go1 t (st2.trans kt)
  exact own_leaveO X2 hx hret hlk (hb hby d34_8) go3 rfl (⟨rfl, N2, R2⟩) (by decide) (by decide)
theorem pnj_36 : plainName "java/lang/StringBuilder" = true := by first | (simp [plainName, overriddenIn]; done) | decide +kernel
theorem efj_rm_sapp1 (m : MethodId) (b : Addr) (a2 : Addr) : entryFrame m #[(.ref b), (.ref a2)] 2 = mkF m 0 #[.val (.ref b), .val (.ref a2)] [] := by first | (simp [entryFrame, mkF, argsToLocals, Value.category]; done) | rfl
theorem d36_0 : Dc c40 0 (.aload_n 0) 1 := by decide +kernel
theorem d36_1 : Dc c40 1 (.aload_n 1) 1 := by decide +kernel
theorem pd1_ : parseMethodDescriptor "(Ljava/lang/String;)Ljava/lang/AbstractStringBuilder;" = some ⟨[(.object "java/lang/String")], some (.object "java/lang/AbstractStringBuilder")⟩ := by decide +kernel
theorem d36_2 : Dc c40 2 (.invokespecial 29) 3 := by decide +kernel
theorem d36_5 : Dc c40 5 (.pop) 1 := by decide +kernel
theorem d36_6 : Dc c40 6 (.aload_n 0) 1 := by decide +kernel
theorem d36_7 : Dc c40 7 (.areturn) 1 := by decide +kernel
def Q_rm_sapp1 (Z : State) (b : Addr) (a2 : Addr) (t : Addr) (kt : ClassId) (v_ : Addr) (kv : ClassId) (zc : Int32) (h0 : Heap) (n0 : Nat) (v : Option Value) (h : Heap) (L : List Loc) : Prop := ∃ (u : Addr) (ku : ClassId), v = some (.ref b) ∧ Fr n0 L ∧ Keep h0 h [b] ∧ Exa Z h b "java/lang/StringBuilder" ∧ Fld Z h b "java/lang/AbstractStringBuilder" "value" "[B" (.ref u) ∧ Fld Z h b "java/lang/AbstractStringBuilder" "coder" "B" (.int (0 : Int32)) ∧ Fld Z h b "java/lang/AbstractStringBuilder" "count" "I" (.int (17 : Int32)) ∧ Fld Z h b "java/lang/AbstractStringBuilder" "maybeLatin1" "Z" (.int (0 : Int32)) ∧ Arv Z h u ku .byte (34 : Int32) own_L34 (.int (0 : Int32)) ∧ h0.size ≤ u
theorem rm_sapp1 (l : Launch) (Z : State) (a0 : Array Value) (hw : Hw a0 Z) (ws : List Jvm.Cond) (b : Addr) (a2 : Addr) (t : Addr) (kt : ClassId) (v_ : Addr) (kv : ClassId) (zc : Int32) (h0 : Heap) (n0 : Nat) (Z0 : n0 ≤ h0.size) (O0 : Ext Z.heap h0) (hn0 : Z.heap.size ≤ n0) (S_CS : Sta Z Z.heap "java/lang/String" "COMPACT_STRINGS" "Z" (.int zc)) (P5 : ¬ zc = (0 : Int32)) (E_b : Exa Z h0 b "java/lang/StringBuilder") (F_value_b : Fld Z h0 b "java/lang/AbstractStringBuilder" "value" "[B" (.ref v_)) (F_coder_b : Fld Z h0 b "java/lang/AbstractStringBuilder" "coder" "B" (.int (0 : Int32))) (F_count_b : Fld Z h0 b "java/lang/AbstractStringBuilder" "count" "I" (.int (0 : Int32))) (F_maybeLatin1_b : Fld Z h0 b "java/lang/AbstractStringBuilder" "maybeLatin1" "Z" (.int (0 : Int32))) (E_a2 : Exa Z h0 a2 "java/lang/String") (C_a2 : Fld Z h0 a2 "java/lang/String" "coder" "B" (.int (0 : Int32))) (V_a2 : Fld Z h0 a2 "java/lang/String" "value" "[B" (.ref t)) (A_t : Arv Z h0 t kt .byte (Int32.ofNat own_PB.length) own_PB (.int (0 : Int32))) (g_b : n0 ≤ b) (V_v_ : Arv Z h0 v_ kv .byte (16 : Int32) (List.replicate 16 (Value.int (0 : Int32))) (.int (0 : Int32))) (ne_a2_b : a2 ≠ b) (ne_t_b : t ≠ b) :
    MF l y0_ jdk_67_method_7_code 2 (some (.object "java/lang/StringBuilder")) ws (rM 5 1 34 76) #[(.ref b), (.ref a2)] Z h0 (Q_rm_sapp1 Z b a2 t kt v_ kv zc h0 n0) := by
  refine own_bodyF n0 (plainFor_of_name pnj_36) (fun m => efj_rm_sapp1 m b a2) ?_
  intro p e s m below meth c s₁ S0 hx hby hml hZ hown hnm hret hlk X0 e0 hh N0 hK go0
  have go1 : Go p e below s₁ (mkF m 2 #[.val (.ref b), .val (.ref a2)] [(.ref a2), (.ref b)]) S0 := by
    intro tt kt
    refine go0 tt ?_
    refine XS.aloadN X0.here hx rfl (hb hby d36_0) rfl rfl ?_
    refine XS.aloadN X0.here hx rfl (hb hby d36_1) rfl rfl ?_
    exact kt
  obtain ⟨_, _, ⟨T2, L2, k2, n2⟩, -, X2, ⟨Lc2, hQ2, l2, y2, z2⟩, st2⟩ := superBack X0 hx hZ (y := y6_) hown (wi hw 88 rfl) (own_same (wi hw 91 rfl) (wi hw 168 rfl) rfl (by decide)) (wi hw 89 rfl) (wi hw 90 rfl) (by decide) (backOf (W := 0) (rm_app1 l Z a0 hw [] b a2 t kt v_ kv zc h0 n0 Z0 O0 hn0 S_CS P5 E_b F_value_b F_coder_b F_count_b F_maybeLatin1_b E_a2 C_a2 V_a2 A_t g_b V_v_ ne_a2_b ne_t_b) hZ (wi hw 92 rfl) (wi hw 74 rfl) (by decide) (by decide)) e0 (Ins.self E_b) (g := (mkF m 2 #[.val (.ref b), .val (.ref a2)] [(.ref a2), (.ref b)])) rfl (by rw [hml]; rfl) (wi hw 92 rfl) (argsL := [(.ref a2)]) (rest := []) (lenOf pd1_ rfl) rfl (by show 2 * 0 + _ ≤ _; exact Nat.le_of_eq rfl) (hb hby d36_2) (fun _ _ => ⟨rfl, e0, (by decide : 0 + 1 ≤ _), (by decide : 0 + 34 ≤ _)⟩)
  dsimp only [Pt.U, Pt.locs, Pt.cells, Pt.slots] at X2 l2 y2 z2 st2 hQ2
  subst l2 y2 z2
  obtain ⟨u, ku, rfl, N2q, R2⟩ := hQ2
  have N2 := Fr.app N0 N2q
  have go3 : Go p e below T2 (mkF m 5 #[.val (.ref b), .val (.ref a2)] [(.ref b)]) S0 := fun t kt => go1 t (st2.trans kt)
  have go4 : Go p e below T2 (mkF m 7 #[.val (.ref b), .val (.ref a2)] [(.ref b)]) S0 := by
    intro tt kt
    refine go3 tt ?_
    refine XS.pop X2.here hx rfl (hb hby d36_5) rfl rfl ?_
    refine XS.aloadN X2.here hx rfl (hb hby d36_6) rfl rfl ?_
    exact kt
  exact own_leaveO X2 hx hret hlk (hb hby d36_7) go4 rfl (⟨u, ku, rfl, N2, R2⟩) (by decide) (by decide)
theorem efj_rm_sapp0 (m : MethodId) (b : Addr) (a2 : Addr) : entryFrame m #[(.ref b), (.ref a2)] 2 = mkF m 0 #[.val (.ref b), .val (.ref a2)] [] := by first | (simp [entryFrame, mkF, argsToLocals, Value.category]; done) | rfl
def Q_rm_sapp0 (Z : State) (b : Addr) (a2 : Addr) (t : Addr) (kt : ClassId) (u : Addr) (ku : ClassId) (n : Nat) (ds : List Value) (zc : Int32) (h0 : Heap) (n0 : Nat) (v : Option Value) (h : Heap) (L : List Loc) : Prop := v = some (.ref b) ∧ Fr n0 L ∧ Keep h0 h [b, u] ∧ Exa Z h b "java/lang/StringBuilder" ∧ Fld Z h b "java/lang/AbstractStringBuilder" "value" "[B" (.ref u) ∧ Fld Z h b "java/lang/AbstractStringBuilder" "coder" "B" (.int (0 : Int32)) ∧ Fld Z h b "java/lang/AbstractStringBuilder" "count" "I" (.int (Int32.ofNat (17 + n))) ∧ Fld Z h b "java/lang/AbstractStringBuilder" "maybeLatin1" "Z" (.int (0 : Int32)) ∧ Arv Z h u ku .byte (34 : Int32) (own_DL ds) (.int (0 : Int32))
theorem rm_sapp0 (l : Launch) (Z : State) (a0 : Array Value) (hw : Hw a0 Z) (ws : List Jvm.Cond) (b : Addr) (a2 : Addr) (t : Addr) (kt : ClassId) (u : Addr) (ku : ClassId) (n : Nat) (ds : List Value) (zc : Int32) (h0 : Heap) (n0 : Nat) (Z0 : n0 ≤ h0.size) (O0 : Ext Z.heap h0) (hn0 : Z.heap.size ≤ n0) (S_CS : Sta Z Z.heap "java/lang/String" "COMPACT_STRINGS" "Z" (.int zc)) (P5 : ¬ zc = (0 : Int32)) (E_b : Exa Z h0 b "java/lang/StringBuilder") (F_value_b : Fld Z h0 b "java/lang/AbstractStringBuilder" "value" "[B" (.ref u)) (F_coder_b : Fld Z h0 b "java/lang/AbstractStringBuilder" "coder" "B" (.int (0 : Int32))) (F_count_b : Fld Z h0 b "java/lang/AbstractStringBuilder" "count" "I" (.int (17 : Int32))) (F_maybeLatin1_b : Fld Z h0 b "java/lang/AbstractStringBuilder" "maybeLatin1" "Z" (.int (0 : Int32))) (E_a2 : Exa Z h0 a2 "java/lang/String") (C_a2 : Fld Z h0 a2 "java/lang/String" "coder" "B" (.int (0 : Int32))) (V_a2 : Fld Z h0 a2 "java/lang/String" "value" "[B" (.ref t)) (A_t : Arv Z h0 t kt .byte (Int32.ofNat ds.length) ds (.int (0 : Int32))) (g_b : n0 ≤ b) (g_u : n0 ≤ u) (V_u : Arv Z h0 u ku .byte (34 : Int32) own_L34 (.int (0 : Int32))) (ne_a2_b : a2 ≠ b) (ne_t_b : t ≠ b) (ne_a2_u : a2 ≠ u) (ne_t_u : t ≠ u) (ne_b_u : b ≠ u) (hn : n = 0 ∨ n = 1 ∨ n = 2 ∨ n = 3 ∨ n = 4) (hdl : ds.length = n) :
    MF l y0_ jdk_67_method_7_code 2 (some (.object "java/lang/StringBuilder")) ws (rM 4 0 0 61) #[(.ref b), (.ref a2)] Z h0 (Q_rm_sapp0 Z b a2 t kt u ku n ds zc h0 n0) := by
  refine own_bodyF n0 (plainFor_of_name pnj_36) (fun m => efj_rm_sapp0 m b a2) ?_
  intro p e s m below meth c s₁ S0 hx hby hml hZ hown hnm hret hlk X0 e0 hh N0 hK go0
  have go1 : Go p e below s₁ (mkF m 2 #[.val (.ref b), .val (.ref a2)] [(.ref a2), (.ref b)]) S0 := by
    intro tt kt
    refine go0 tt ?_
    refine XS.aloadN X0.here hx rfl (hb hby d36_0) rfl rfl ?_
    refine XS.aloadN X0.here hx rfl (hb hby d36_1) rfl rfl ?_
    exact kt
  obtain ⟨_, _, ⟨T2, L2, k2, n2⟩, -, X2, ⟨Lc2, hQ2, l2, y2, z2⟩, st2⟩ := superBack X0 hx hZ (y := y6_) hown (wi hw 88 rfl) (own_same (wi hw 91 rfl) (wi hw 168 rfl) rfl (by decide)) (wi hw 89 rfl) (wi hw 90 rfl) (by decide) (backOf (W := 0) (rm_app0 l Z a0 hw [] b a2 t kt u ku n ds zc h0 n0 Z0 O0 hn0 S_CS P5 E_b F_value_b F_coder_b F_count_b F_maybeLatin1_b E_a2 C_a2 V_a2 A_t g_b g_u V_u ne_a2_b ne_t_b ne_a2_u ne_t_u ne_b_u hn hdl) hZ (wi hw 92 rfl) (wi hw 74 rfl) (by decide) (by decide)) e0 (Ins.self E_b) (g := (mkF m 2 #[.val (.ref b), .val (.ref a2)] [(.ref a2), (.ref b)])) rfl (by rw [hml]; rfl) (wi hw 92 rfl) (argsL := [(.ref a2)]) (rest := []) (lenOf pd1_ rfl) rfl (by show 2 * 0 + _ ≤ _; exact Nat.le_of_eq rfl) (hb hby d36_2) (fun _ _ => ⟨rfl, e0, (by decide : 0 + 0 ≤ _), (by decide : 0 + 0 ≤ _)⟩)
  dsimp only [Pt.U, Pt.locs, Pt.cells, Pt.slots] at X2 l2 y2 z2 st2 hQ2
  subst l2 y2 z2
  obtain ⟨rfl, N2q, R2⟩ := hQ2
  have N2 := Fr.app N0 N2q
  have go3 : Go p e below T2 (mkF m 5 #[.val (.ref b), .val (.ref a2)] [(.ref b)]) S0 := fun t kt => go1 t (st2.trans kt)
  have go4 : Go p e below T2 (mkF m 7 #[.val (.ref b), .val (.ref a2)] [(.ref b)]) S0 := by
    intro tt kt
    refine go3 tt ?_
    refine XS.pop X2.here hx rfl (hb hby d36_5) rfl rfl ?_
    refine XS.aloadN X2.here hx rfl (hb hby d36_6) rfl rfl ?_
    exact kt
  exact own_leaveO X2 hx hret hlk (hb hby d36_7) go4 rfl (⟨rfl, N2, R2⟩) (by decide) (by decide)
theorem efj_rm_sappU (m : MethodId) (b : Addr) (a2 : Addr) : entryFrame m #[(.ref b), (.ref a2)] 2 = mkF m 0 #[.val (.ref b), .val (.ref a2)] [] := by first | (simp [entryFrame, mkF, argsToLocals, Value.category]; done) | rfl
def Q_rm_sappU (Z : State) (b : Addr) (a2 : Addr) (t : Addr) (kt : ClassId) (u : Addr) (ku : ClassId) (n : Nat) (ds : List Value) (fm : Value) (zc : Int32) (h0 : Heap) (n0 : Nat) (v : Option Value) (h : Heap) (L : List Loc) : Prop := ∃ (r : Addr) (kr : ClassId), v = some (.ref b) ∧ Fr n0 L ∧ Keep h0 h [b] ∧ Exa Z h b "java/lang/StringBuilder" ∧ Fld Z h b "java/lang/AbstractStringBuilder" "value" "[B" (.ref r) ∧ Fld Z h b "java/lang/AbstractStringBuilder" "coder" "B" (.int (1 : Int32)) ∧ Fld Z h b "java/lang/AbstractStringBuilder" "count" "I" (.int (Int32.ofNat (17 + n))) ∧ Fld Z h b "java/lang/AbstractStringBuilder" "maybeLatin1" "Z" (.int (0 : Int32)) ∧ Arv Z h r kr .byte (Int32.ofNat 68) (own_DU ds) (.int (0 : Int32))
theorem rm_sappU (l : Launch) (Z : State) (a0 : Array Value) (hw : Hw a0 Z) (ws : List Jvm.Cond) (b : Addr) (a2 : Addr) (t : Addr) (kt : ClassId) (u : Addr) (ku : ClassId) (n : Nat) (ds : List Value) (fm : Value) (zc : Int32) (h0 : Heap) (n0 : Nat) (Z0 : n0 ≤ h0.size) (O0 : Ext Z.heap h0) (hn0 : Z.heap.size ≤ n0) (S_CS : Sta Z Z.heap "java/lang/String" "COMPACT_STRINGS" "Z" (.int zc)) (P5 : ¬ zc = (0 : Int32)) (S_AD : Sta Z Z.heap "java/lang/StringUTF16" "$assertionsDisabled" "Z" (.int (1 : Int32))) (S_HI : Sta Z Z.heap "java/lang/StringUTF16" "HI_BYTE_SHIFT" "I" (.int (0 : Int32))) (S_LO : Sta Z Z.heap "java/lang/StringUTF16" "LO_BYTE_SHIFT" "I" (.int (8 : Int32))) (S_SI : Sta Z Z.heap "jdk/internal/util/Preconditions" "SIOOBE_FORMATTER" "Ljava/util/function/BiFunction;" fm) (rf : fm.isRef = true) (E_b : Exa Z h0 b "java/lang/StringBuilder") (F_value_b : Fld Z h0 b "java/lang/AbstractStringBuilder" "value" "[B" (.ref u)) (F_coder_b : Fld Z h0 b "java/lang/AbstractStringBuilder" "coder" "B" (.int (0 : Int32))) (F_count_b : Fld Z h0 b "java/lang/AbstractStringBuilder" "count" "I" (.int (17 : Int32))) (F_maybeLatin1_b : Fld Z h0 b "java/lang/AbstractStringBuilder" "maybeLatin1" "Z" (.int (0 : Int32))) (E_a2 : Exa Z h0 a2 "java/lang/String") (C_a2 : Fld Z h0 a2 "java/lang/String" "coder" "B" (.int (1 : Int32))) (V_a2 : Fld Z h0 a2 "java/lang/String" "value" "[B" (.ref t)) (A_t : Arv Z h0 t kt .byte (Int32.ofNat ds.length) ds (.int (0 : Int32))) (g_b : n0 ≤ b) (V_u : Arv Z h0 u ku .byte (34 : Int32) own_L34 (.int (0 : Int32))) (ne_a2_b : a2 ≠ b) (ne_t_b : t ≠ b) (hn : n = 1 ∨ n = 2 ∨ n = 3) (hdl : ds.length = 2 * n) :
    MF l y0_ jdk_67_method_7_code 2 (some (.object "java/lang/StringBuilder")) ws (rM 9 1 68 130) #[(.ref b), (.ref a2)] Z h0 (Q_rm_sappU Z b a2 t kt u ku n ds fm zc h0 n0) := by
  refine own_bodyF n0 (plainFor_of_name pnj_36) (fun m => efj_rm_sappU m b a2) ?_
  intro p e s m below meth c s₁ S0 hx hby hml hZ hown hnm hret hlk X0 e0 hh N0 hK go0
  have go1 : Go p e below s₁ (mkF m 2 #[.val (.ref b), .val (.ref a2)] [(.ref a2), (.ref b)]) S0 := by
    intro tt kt
    refine go0 tt ?_
    refine XS.aloadN X0.here hx rfl (hb hby d36_0) rfl rfl ?_
    refine XS.aloadN X0.here hx rfl (hb hby d36_1) rfl rfl ?_
    exact kt
  obtain ⟨_, _, ⟨T2, L2, k2, n2⟩, -, X2, ⟨Lc2, hQ2, l2, y2, z2⟩, st2⟩ := superBack X0 hx hZ (y := y6_) hown (wi hw 88 rfl) (own_same (wi hw 91 rfl) (wi hw 168 rfl) rfl (by decide)) (wi hw 89 rfl) (wi hw 90 rfl) (by decide) (backOf (W := 0) (rm_appU l Z a0 hw [] b a2 t kt u ku n ds fm zc h0 n0 Z0 O0 hn0 S_CS P5 S_AD S_HI S_LO S_SI rf E_b F_value_b F_coder_b F_count_b F_maybeLatin1_b E_a2 C_a2 V_a2 A_t g_b V_u ne_a2_b ne_t_b hn hdl) hZ (wi hw 92 rfl) (wi hw 74 rfl) (by decide) (by decide)) e0 (Ins.self E_b) (g := (mkF m 2 #[.val (.ref b), .val (.ref a2)] [(.ref a2), (.ref b)])) rfl (by rw [hml]; rfl) (wi hw 92 rfl) (argsL := [(.ref a2)]) (rest := []) (lenOf pd1_ rfl) rfl (by show 2 * 0 + _ ≤ _; exact Nat.le_of_eq rfl) (hb hby d36_2) (fun _ _ => ⟨rfl, e0, (by decide : 0 + 1 ≤ _), (by decide : 0 + 68 ≤ _)⟩)
  dsimp only [Pt.U, Pt.locs, Pt.cells, Pt.slots] at X2 l2 y2 z2 st2 hQ2
  subst l2 y2 z2
  obtain ⟨r, kr, rfl, N2q, R2⟩ := hQ2
  have N2 := Fr.app N0 N2q
  have go3 : Go p e below T2 (mkF m 5 #[.val (.ref b), .val (.ref a2)] [(.ref b)]) S0 := fun t kt => go1 t (st2.trans kt)
  have go4 : Go p e below T2 (mkF m 7 #[.val (.ref b), .val (.ref a2)] [(.ref b)]) S0 := by
    intro tt kt
    refine go3 tt ?_
    refine XS.pop X2.here hx rfl (hb hby d36_5) rfl rfl ?_
    refine XS.aloadN X2.here hx rfl (hb hby d36_6) rfl rfl ?_
    exact kt
  exact own_leaveO X2 hx hret hlk (hb hby d36_7) go4 rfl (⟨r, kr, rfl, N2, R2⟩) (by decide) (by decide)
theorem efj_rm_sappN (m : MethodId) (b : Addr) : entryFrame m #[(.ref b), .null] 2 = mkF m 0 #[.val (.ref b), .val .null] [] := by first | (simp [entryFrame, mkF, argsToLocals, Value.category]; done) | rfl
def Q_rm_sappN (Z : State) (b : Addr) (u : Addr) (ku : ClassId) (zc : Int32) (h0 : Heap) (n0 : Nat) (v : Option Value) (h : Heap) (L : List Loc) : Prop := v = some (.ref b) ∧ Fr n0 L ∧ Keep h0 h [b, u] ∧ Exa Z h b "java/lang/StringBuilder" ∧ Fld Z h b "java/lang/AbstractStringBuilder" "value" "[B" (.ref u) ∧ Fld Z h b "java/lang/AbstractStringBuilder" "coder" "B" (.int (0 : Int32)) ∧ Fld Z h b "java/lang/AbstractStringBuilder" "count" "I" (.int (Int32.ofNat (17 + 4))) ∧ Fld Z h b "java/lang/AbstractStringBuilder" "maybeLatin1" "Z" (.int (0 : Int32)) ∧ Arv Z h u ku .byte (34 : Int32) (own_DL own_NB) (.int (0 : Int32))
theorem rm_sappN (l : Launch) (Z : State) (a0 : Array Value) (hw : Hw a0 Z) (ws : List Jvm.Cond) (b : Addr) (u : Addr) (ku : ClassId) (zc : Int32) (h0 : Heap) (n0 : Nat) (Z0 : n0 ≤ h0.size) (O0 : Ext Z.heap h0) (hn0 : Z.heap.size ≤ n0) (S_CS : Sta Z Z.heap "java/lang/String" "COMPACT_STRINGS" "Z" (.int zc)) (P5 : ¬ zc = (0 : Int32)) (E_b : Exa Z h0 b "java/lang/StringBuilder") (F_value_b : Fld Z h0 b "java/lang/AbstractStringBuilder" "value" "[B" (.ref u)) (F_coder_b : Fld Z h0 b "java/lang/AbstractStringBuilder" "coder" "B" (.int (0 : Int32))) (F_count_b : Fld Z h0 b "java/lang/AbstractStringBuilder" "count" "I" (.int (17 : Int32))) (F_maybeLatin1_b : Fld Z h0 b "java/lang/AbstractStringBuilder" "maybeLatin1" "Z" (.int (0 : Int32))) (g_b : n0 ≤ b) (g_u : n0 ≤ u) (V_u : Arv Z h0 u ku .byte (34 : Int32) own_L34 (.int (0 : Int32))) (ne_b_u : b ≠ u) :
    MF l y0_ jdk_67_method_7_code 2 (some (.object "java/lang/StringBuilder")) ws (rM 3 0 0 42) #[(.ref b), .null] Z h0 (Q_rm_sappN Z b u ku zc h0 n0) := by
  refine own_bodyF n0 (plainFor_of_name pnj_36) (fun m => efj_rm_sappN m b) ?_
  intro p e s m below meth c s₁ S0 hx hby hml hZ hown hnm hret hlk X0 e0 hh N0 hK go0
  have go1 : Go p e below s₁ (mkF m 2 #[.val (.ref b), .val .null] [.null, (.ref b)]) S0 := by
    intro tt kt
    refine go0 tt ?_
    refine XS.aloadN X0.here hx rfl (hb hby d36_0) rfl rfl ?_
    refine XS.aloadN X0.here hx rfl (hb hby d36_1) rfl rfl ?_
    exact kt
  obtain ⟨_, _, ⟨T2, L2, k2, n2⟩, -, X2, ⟨Lc2, hQ2, l2, y2, z2⟩, st2⟩ := superBack X0 hx hZ (y := y6_) hown (wi hw 88 rfl) (own_same (wi hw 91 rfl) (wi hw 168 rfl) rfl (by decide)) (wi hw 89 rfl) (wi hw 90 rfl) (by decide) (backOf (W := 0) (rm_appN l Z a0 hw [] b u ku zc h0 n0 Z0 O0 hn0 S_CS P5 E_b F_value_b F_coder_b F_count_b F_maybeLatin1_b g_b g_u V_u ne_b_u) hZ (wi hw 92 rfl) (wi hw 74 rfl) (by decide) (by decide)) e0 (Ins.self E_b) (g := (mkF m 2 #[.val (.ref b), .val .null] [.null, (.ref b)])) rfl (by rw [hml]; rfl) (wi hw 92 rfl) (argsL := [.null]) (rest := []) (lenOf pd1_ rfl) rfl (by show 2 * 0 + _ ≤ _; exact Nat.le_of_eq rfl) (hb hby d36_2) (fun _ _ => ⟨rfl, e0, (by decide : 0 + 0 ≤ _), (by decide : 0 + 0 ≤ _)⟩)
  dsimp only [Pt.U, Pt.locs, Pt.cells, Pt.slots] at X2 l2 y2 z2 st2 hQ2
  subst l2 y2 z2
  obtain ⟨rfl, N2q, R2⟩ := hQ2
  have N2 := Fr.app N0 N2q
  have go3 : Go p e below T2 (mkF m 5 #[.val (.ref b), .val .null] [(.ref b)]) S0 := fun t kt => go1 t (st2.trans kt)
  have go4 : Go p e below T2 (mkF m 7 #[.val (.ref b), .val .null] [(.ref b)]) S0 := by
    intro tt kt
    refine go3 tt ?_
    refine XS.pop X2.here hx rfl (hb hby d36_5) rfl rfl ?_
    refine XS.aloadN X2.here hx rfl (hb hby d36_6) rfl rfl ?_
    exact kt
  exact own_leaveO X2 hx hret hlk (hb hby d36_7) go4 rfl (⟨rfl, N2, R2⟩) (by decide) (by decide)
theorem pnj_37 : plainName "java/lang/AbstractStringBuilder" = true := by first | (simp [plainName, overriddenIn]; done) | decide +kernel
theorem efj_rm_gv (m : MethodId) (b : Addr) : entryFrame m #[(.ref b)] 1 = mkF m 0 #[.val (.ref b)] [] := by first | (simp [entryFrame, mkF, argsToLocals, Value.category]; done) | rfl
theorem d37_0 : Dc c47 0 (.aload_n 0) 1 := by decide +kernel
theorem d37_1 : Dc c47 1 (.getfield 15) 3 := by decide +kernel
theorem d37_4 : Dc c47 4 (.areturn) 1 := by decide +kernel
def Q_rm_gv (Z : State) (b : Addr) (u : Addr) (h0 : Heap) (n0 : Nat) (v : Option Value) (h : Heap) (L : List Loc) : Prop := v = some (.ref u) ∧ Fr n0 L ∧ h = h0
theorem rm_gv (l : Launch) (Z : State) (a0 : Array Value) (hw : Hw a0 Z) (ws : List Jvm.Cond) (b : Addr) (u : Addr) (h0 : Heap) (n0 : Nat) (Z0 : n0 ≤ h0.size) (F_value_b : Fld Z h0 b "java/lang/AbstractStringBuilder" "value" "[B" (.ref u)) :
    MF l y13_ jdk_68_method_64_code 1 (some (.array .byte)) ws (rM 0 0 0 0) #[(.ref b)] Z h0 (Q_rm_gv Z b u h0 n0) := by
  refine own_bodyF n0 (plainFor_of_name pnj_37) (fun m => efj_rm_gv m b) ?_
  intro p e s m below meth c s₁ S0 hx hby hml hZ hown hnm hret hlk X0 e0 hh N0 hK go0
  have go1 : Go p e below s₁ (mkF m 1 #[.val (.ref b)] [(.ref b)]) S0 := by
    intro tt kt
    refine go0 tt ?_
    refine XS.aloadN X0.here hx rfl (hb hby d37_0) rfl rfl ?_
    exact kt
  obtain ⟨T2, X2, e2, st2⟩ := getF X0 hx hZ hown (host := "") (Or.inl (wi hw 78 rfl)) Via.refl e0 F_value_b (g := (mkF m 1 #[.val (.ref b)] [(.ref b)])) rfl rfl (hb hby d37_1)
  have go3 : Go p e below T2 (mkF m 4 #[.val (.ref b)] [(.ref u)]) S0 := fun t kt => go1 t (st2 _ kt)
  exact own_leaveA X2 hx hret hlk (hb hby d37_4) go3 e2 (⟨rfl, N0, rfl⟩) (by decide) (by decide)
theorem pnj_38 : plainName "java/lang/AbstractStringBuilder" = true := by first | (simp [plainName, overriddenIn]; done) | decide +kernel
theorem efj_rm_abl (m : MethodId) (b : Addr) : entryFrame m #[(.ref b)] 1 = mkF m 0 #[.val (.ref b)] [] := by first | (simp [entryFrame, mkF, argsToLocals, Value.category]; done) | rfl
theorem d38_0 : Dc c49 0 (.aload_n 0) 1 := by decide +kernel
theorem d38_1 : Dc c49 1 (.getfield 79) 3 := by decide +kernel
theorem d38_4 : Dc c49 4 (.ireturn) 1 := by decide +kernel
def Q_rm_abl (Z : State) (b : Addr) (cc : Int32) (h0 : Heap) (n0 : Nat) (v : Option Value) (h : Heap) (L : List Loc) : Prop := v = some (.int cc) ∧ Fr n0 L ∧ h = h0
theorem rm_abl (l : Launch) (Z : State) (a0 : Array Value) (hw : Hw a0 Z) (ws : List Jvm.Cond) (b : Addr) (cc : Int32) (h0 : Heap) (n0 : Nat) (Z0 : n0 ≤ h0.size) (F_count_b : Fld Z h0 b "java/lang/AbstractStringBuilder" "count" "I" (.int cc)) :
    MF l y14_ jdk_68_method_6_code 1 (some .int) ws (rM 0 0 0 0) #[(.ref b)] Z h0 (Q_rm_abl Z b cc h0 n0) := by
  refine own_bodyF n0 (plainFor_of_name pnj_38) (fun m => efj_rm_abl m b) ?_
  intro p e s m below meth c s₁ S0 hx hby hml hZ hown hnm hret hlk X0 e0 hh N0 hK go0
  have go1 : Go p e below s₁ (mkF m 1 #[.val (.ref b)] [(.ref b)]) S0 := by
    intro tt kt
    refine go0 tt ?_
    refine XS.aloadN X0.here hx rfl (hb hby d38_0) rfl rfl ?_
    exact kt
  obtain ⟨T2, X2, e2, st2⟩ := getF X0 hx hZ hown (host := "") (Or.inl (wi hw 103 rfl)) Via.refl e0 F_count_b (g := (mkF m 1 #[.val (.ref b)] [(.ref b)])) rfl rfl (hb hby d38_1)
  have go3 : Go p e below T2 (mkF m 4 #[.val (.ref b)] [(.int cc)]) S0 := fun t kt => go1 t (st2 _ kt)
  exact own_leaveI X2 hx hret hlk (hb hby d38_4) go3 e2 (⟨rfl, N0, rfl⟩) (by decide) (by decide)
theorem pnj_39 : plainName "java/lang/StringBuilder" = true := by first | (simp [plainName, overriddenIn]; done) | decide +kernel
theorem efj_rm_sbl (m : MethodId) (b : Addr) : entryFrame m #[(.ref b)] 1 = mkF m 0 #[.val (.ref b)] [] := by first | (simp [entryFrame, mkF, argsToLocals, Value.category]; done) | rfl
theorem d39_0 : Dc c41 0 (.aload_n 0) 1 := by decide +kernel
theorem d39_1 : Dc c41 1 (.invokespecial 343) 3 := by decide +kernel
theorem d39_4 : Dc c41 4 (.ireturn) 1 := by decide +kernel
def Q_rm_sbl (Z : State) (b : Addr) (cc : Int32) (h0 : Heap) (n0 : Nat) (v : Option Value) (h : Heap) (L : List Loc) : Prop := v = some (.int cc) ∧ Fr n0 L ∧ h = h0
theorem rm_sbl (l : Launch) (Z : State) (a0 : Array Value) (hw : Hw a0 Z) (ws : List Jvm.Cond) (b : Addr) (cc : Int32) (h0 : Heap) (n0 : Nat) (Z0 : n0 ≤ h0.size) (E_b : Exa Z h0 b "java/lang/StringBuilder") (F_count_b : Fld Z h0 b "java/lang/AbstractStringBuilder" "count" "I" (.int cc)) :
    MF l y29_ jdk_67_method_93_code 1 (some .int) ws (rM 1 0 0 12) #[(.ref b)] Z h0 (Q_rm_sbl Z b cc h0 n0) := by
  refine own_bodyF n0 (plainFor_of_name pnj_39) (fun m => efj_rm_sbl m b) ?_
  intro p e s m below meth c s₁ S0 hx hby hml hZ hown hnm hret hlk X0 e0 hh N0 hK go0
  have go1 : Go p e below s₁ (mkF m 1 #[.val (.ref b)] [(.ref b)]) S0 := by
    intro tt kt
    refine go0 tt ?_
    refine XS.aloadN X0.here hx rfl (hb hby d39_0) rfl rfl ?_
    exact kt
  obtain ⟨_, _, ⟨T2, L2, k2, n2⟩, -, X2, ⟨Lc2, hQ2, l2, y2, z2⟩, st2⟩ := superBack X0 hx hZ (y := y14_) hown (wi hw 176 rfl) (own_same (wi hw 171 rfl) (wi hw 168 rfl) rfl (by decide)) (wi hw 172 rfl) (wi hw 90 rfl) (by decide) (backOf (W := 0) (rm_abl l Z a0 hw [] b cc h0 n0 Z0 F_count_b) hZ (wi hw 177 rfl) (wi hw 74 rfl) (by decide) (by decide)) e0 (Ins.self E_b) (g := (mkF m 1 #[.val (.ref b)] [(.ref b)])) rfl (by rw [hml]; rfl) (wi hw 177 rfl) (argsL := []) (rest := []) (lenOf pd37_ rfl) rfl (by show 2 * 0 + _ ≤ _; exact Nat.le_of_eq rfl) (hb hby d39_1) (fun _ _ => ⟨rfl, e0, (by decide : 0 + 0 ≤ _), (by decide : 0 + 0 ≤ _)⟩)
  dsimp only [Pt.U, Pt.locs, Pt.cells, Pt.slots] at X2 l2 y2 z2 st2 hQ2
  subst l2 y2 z2
  obtain ⟨rfl, N2q, g2⟩ := hQ2
  rw [← g2] at E_b Z0
  have N2 := Fr.app N0 N2q
  have go3 : Go p e below T2 (mkF m 4 #[.val (.ref b)] [(.int cc)]) S0 := fun t kt => go1 t (st2.trans kt)
  exact own_leaveI X2 hx hret hlk (hb hby d39_4) go3 rfl (⟨rfl, N2, g2⟩) (by decide) (by decide)
theorem pnj_40 : plainName "java/util/Arrays" = true := by first | (simp [plainName, overriddenIn]; done) | decide +kernel
theorem efj_rm_chk (m : MethodId) (mn : Nat) : entryFrame m #[(.int (0 : Int32)), (.int (Int32.ofNat mn))] 2 = mkF m 0 #[.val (.int (0 : Int32)), .val (.int (Int32.ofNat mn))] [] := by first | (simp [entryFrame, mkF, argsToLocals, Value.category]; done) | rfl
theorem d40_0 : Dc c35 0 (.iload_n 1) 1 := by decide +kernel
theorem d40_1 : Dc c35 1 (.iload_n 0) 1 := by decide +kernel
theorem d40_2 : Dc c35 2 (.if_icmp .ge 35) 3 := by decide +kernel
theorem d40_37 : Dc c35 37 (.return_) 1 := by decide +kernel
def Q_rm_chk (Z : State) (mn : Nat) (h0 : Heap) (n0 : Nat) (v : Option Value) (h : Heap) (L : List Loc) : Prop := v = none ∧ Fr n0 L ∧ h = h0
theorem rm_chk (l : Launch) (Z : State) (a0 : Array Value) (hw : Hw a0 Z) (ws : List Jvm.Cond) (mn : Nat) (h0 : Heap) (n0 : Nat) (Z0 : n0 ≤ h0.size) (hm : mn < 1000) :
    MF l y44_ jdk_65_method_131_code 2 none ws (rM 0 0 0 0) #[(.int (0 : Int32)), (.int (Int32.ofNat mn))] Z h0 (Q_rm_chk Z mn h0 n0) := by
  refine own_bodyF n0 (plainFor_of_name pnj_40) (fun m => efj_rm_chk m mn) ?_
  intro p e s m below meth c s₁ S0 hx hby hml hZ hown hnm hret hlk X0 e0 hh N0 hK go0
  have go1 : Go p e below s₁ (mkF m 37 #[.val (.int (0 : Int32)), .val (.int (Int32.ofNat mn))] []) S0 := by
    intro tt kt
    refine go0 tt ?_
    refine XS.iloadN X0.here hx rfl (hb hby d40_0) rfl ?_
    refine XS.iloadN X0.here hx rfl (hb hby d40_1) rfl ?_
    refine XS.icmpYes X0.here hx rfl (pc0 := 2) (pc' := 37) rfl (hb hby d40_2) rfl (flt (oN (by omega))).2.1 (by decide) (by decide) ?_
    exact kt
  exact own_leaveV X0 hx hret hlk (hb hby d40_37) go1 e0 (⟨rfl, N0, rfl⟩) (by decide) (by decide)
theorem own_sub0 (x : Int32) : x - (0 : Int32) = x := by apply Int32.toBitVec_inj.mp; show x.toBitVec - 0#32 = x.toBitVec; simp
theorem own_cpt (l u : List Value) (m : Nat) (h : l.length = m) : l.take 0 ++ u ++ l.drop (0 + m) = u := by rw [Nat.zero_add, List.take_zero, List.nil_append, ← h, List.drop_length, List.append_nil]
theorem pnj_41 : plainName "java/util/Arrays" = true := by first | (simp [plainName, overriddenIn]; done) | decide +kernel
theorem efj_rm_crb (m : MethodId) (a1 : Addr) (mn : Nat) : entryFrame m #[(.ref a1), (.int (0 : Int32)), (.int (Int32.ofNat mn))] 5 = mkF m 0 #[.val (.ref a1), .val (.int (0 : Int32)), .val (.int (Int32.ofNat mn)), .unset, .unset] [] := by first | (simp [entryFrame, mkF, argsToLocals, Value.category]; done) | rfl
theorem d41_0 : Dc c37 0 (.iload_n 1) 1 := by decide +kernel
theorem d41_1 : Dc c37 1 (.iload_n 2) 1 := by decide +kernel
theorem pd28_ : parseMethodDescriptor "(II)V" = some ⟨[.int, .int], none⟩ := by decide +kernel
theorem d41_2 : Dc c37 2 (.invokestatic 343) 3 := by decide +kernel
theorem d41_5 : Dc c37 5 (.iload_n 2) 1 := by decide +kernel
theorem d41_6 : Dc c37 6 (.iload_n 1) 1 := by decide +kernel
theorem d41_7 : Dc c37 7 (.isub) 1 := by decide +kernel
theorem d41_8 : Dc c37 8 (.istore_n 3) 1 := by decide +kernel
theorem d41_9 : Dc c37 9 (.iload_n 3) 1 := by decide +kernel
theorem d41_10 : Dc c37 10 (.newarray .byte) 2 := by decide +kernel
theorem d41_12 : Dc c37 12 (.astore 4) 2 := by decide +kernel
theorem d41_14 : Dc c37 14 (.aload_n 0) 1 := by decide +kernel
theorem d41_15 : Dc c37 15 (.iload_n 1) 1 := by decide +kernel
theorem d41_16 : Dc c37 16 (.aload 4) 2 := by decide +kernel
theorem d41_18 : Dc c37 18 (.iconst 0) 1 := by decide +kernel
theorem d41_19 : Dc c37 19 (.aload_n 0) 1 := by decide +kernel
theorem d41_20 : Dc c37 20 (.arraylength) 1 := by decide +kernel
theorem d41_21 : Dc c37 21 (.iload_n 1) 1 := by decide +kernel
theorem d41_22 : Dc c37 22 (.isub) 1 := by decide +kernel
theorem d41_23 : Dc c37 23 (.iload_n 3) 1 := by decide +kernel
theorem d41_24 : Dc c37 24 (.invokestatic 304) 3 := by decide +kernel
theorem d41_27 : Dc c37 27 (.invokestatic 150) 3 := by decide +kernel
theorem d41_30 : Dc c37 30 (.aload 4) 2 := by decide +kernel
theorem d41_32 : Dc c37 32 (.areturn) 1 := by decide +kernel
def Q_rm_crb (Z : State) (a1 : Addr) (mn : Nat) (k1 : ClassId) (zl : Nat) (vs : List Value) (h0 : Heap) (n0 : Nat) (v : Option Value) (h : Heap) (L : List Loc) : Prop := ∃ (r : Addr) (kr : ClassId), v = some (.ref r) ∧ Fr n0 L ∧ Ext h0 h ∧ Arv Z h r kr .byte (Int32.ofNat mn) (vs.take mn) (.int (0 : Int32)) ∧ h0.size ≤ r
theorem rm_crb (l : Launch) (Z : State) (a0 : Array Value) (hw : Hw a0 Z) (ws : List Jvm.Cond) (a1 : Addr) (mn : Nat) (k1 : ClassId) (zl : Nat) (vs : List Value) (h0 : Heap) (n0 : Nat) (Z0 : n0 ≤ h0.size) (V_a1 : Arv Z h0 a1 k1 .byte (Int32.ofNat zl) vs (.int (0 : Int32))) (hzl : zl = vs.length) (hm : mn < zl) (hm2 : mn ≤ 42) (hz2 : zl < 1000) :
    MF l y47_ jdk_65_method_133_code 5 (some (.array .byte)) ws (rM 1 1 42 18) #[(.ref a1), (.int (0 : Int32)), (.int (Int32.ofNat mn))] Z h0 (Q_rm_crb Z a1 mn k1 zl vs h0 n0) := by
  refine own_bodyF n0 (plainFor_of_name pnj_41) (fun m => efj_rm_crb m a1 mn) ?_
  intro p e s m below meth c s₁ S0 hx hby hml hZ hown hnm hret hlk X0 e0 hh N0 hK go0
  have K0 : Keep h0 h0 [] := Keep.refl h0 []
  have go1 : Go p e below s₁ (mkF m 2 #[.val (.ref a1), .val (.int (0 : Int32)), .val (.int (Int32.ofNat mn)), .unset, .unset] [(.int (Int32.ofNat mn)), (.int (0 : Int32))]) S0 := by
    intro tt kt
    refine go0 tt ?_
    refine XS.iloadN X0.here hx rfl (hb hby d41_0) rfl ?_
    refine XS.iloadN X0.here hx rfl (hb hby d41_1) rfl ?_
    exact kt
  obtain ⟨_, _, ⟨T2, L2, k2, n2⟩, -, X2, ⟨Lc2, hQ2, l2, y2, z2⟩, st2⟩ := Jvm.LawKit.callS X0 hx (y := y44_) hown (mvT hZ (wi hw 189 rfl)) (mvT hZ (wi hw 190 rfl)) (mvT hZ (wi hw 127 rfl)) (mvT hZ (wi hw 191 rfl)) (by decide) (backOf (W := 0) (rm_chk l Z a0 hw [] mn h0 n0 Z0 (by omega)) hZ (wi hw 191 rfl) (wi hw 127 rfl) (by decide) (by decide)) (g := (mkF m 2 #[.val (.ref a1), .val (.int (0 : Int32)), .val (.int (Int32.ofNat mn)), .unset, .unset] [(.int (Int32.ofNat mn)), (.int (0 : Int32))])) rfl (by rw [hml]; rfl) (argsL := [(.int (0 : Int32)), (.int (Int32.ofNat mn))]) (rest := []) (lenOf pd28_ rfl) rfl (by show 2 * 0 + _ ≤ _; exact Nat.le_of_eq rfl) (hb hby d41_2) (fun _ _ => ⟨rfl, e0, (by decide : 0 + 0 ≤ _), (by decide : 0 + 0 ≤ _)⟩)
  dsimp only [Pt.U, Pt.locs, Pt.cells, Pt.slots] at X2 l2 y2 z2 st2 hQ2
  subst l2 y2 z2
  obtain ⟨rfl, N2q, g2⟩ := hQ2
  have K0 := own_ks g2 K0
  rw [← g2] at V_a1 Z0
  have N2 := Fr.app N0 N2q
  have go3 : Go p e below T2 (mkF m 5 #[.val (.ref a1), .val (.int (0 : Int32)), .val (.int (Int32.ofNat mn)), .unset, .unset] []) S0 := fun t kt => go1 t (st2 _ kt)
  have go4 : Go p e below T2 (mkF m 8 #[.val (.ref a1), .val (.int (0 : Int32)), .val (.int (Int32.ofNat mn)), .unset, .unset] [(.int ((Int32.ofNat mn) - (0 : Int32)))]) S0 := by
    intro tt kt
    refine go3 tt ?_
    refine XS.iloadN X2.here hx rfl (hb hby d41_5) rfl ?_
    refine XS.iloadN X2.here hx rfl (hb hby d41_6) rfl ?_
    refine XS.isub X2.here hx rfl (hb hby d41_7) rfl ?_
    exact kt
  have cv5 : ((Int32.ofNat mn) - (0 : Int32)) = (Int32.ofNat mn) := (own_sub0 _)
  have go5 : Go p e below T2 (mkF m 8 #[.val (.ref a1), .val (.int (0 : Int32)), .val (.int (Int32.ofNat mn)), .unset, .unset] [(.int (Int32.ofNat mn))]) S0 := by have q := go4; rw [cv5] at q; exact q
  have go6 : Go p e below T2 (mkF m 10 #[.val (.ref a1), .val (.int (0 : Int32)), .val (.int (Int32.ofNat mn)), .val (.int (Int32.ofNat mn)), .unset] [(.int (Int32.ofNat mn))]) S0 := by
    intro tt kt
    refine go5 tt ?_
    refine XS.istoreN X2.here hx rfl (hb hby d41_8) rfl (l' := #[.val (.ref a1), .val (.int (0 : Int32)), .val (.int (Int32.ofNat mn)), .val (.int (Int32.ofNat mn)), .unset]) rfl ?_
    refine XS.iloadN X2.here hx rfl (hb hby d41_9) rfl ?_
    exact kt
  obtain ⟨T7, h7, k7, X7, e7, E7, A7, st7⟩ := newP X2 hx hZ (wi hw 16 rfl) rfl (g := (mkF m 10 #[.val (.ref a1), .val (.int (0 : Int32)), .val (.int (Int32.ofNat mn)), .val (.int (Int32.ofNat mn)), .unset] [(.int (Int32.ofNat mn))])) rfl (hb hby d41_10) rfl (oN (by omega)) (cap := 42) (by rw [oC (by omega)]; exact hm2) (by decide) (by decide) (by decide)
  obtain ⟨r, g7⟩ : ∃ z, z = T2.heap.size := ⟨_, rfl⟩
  rw [← g7] at A7 st7
  have g_r : n0 ≤ r := Nat.le_trans Z0 (Nat.le_of_eq g7.symm)
  have sz_r : h0.size ≤ r := Nat.le_trans K0.1 (Nat.le_of_eq g7.symm)
  have ne_a1_r : a1 ≠ r := Nat.ne_of_lt (Nat.lt_of_lt_of_le V_a1.lt (Nat.le_of_eq g7.symm))
  have V_a1 := V_a1.ext E7
  have Z0 := Nat.le_trans Z0 E7.1
  have K0 := K0.ext E7
  have go8 : Go p e below T7 (mkF m 12 #[.val (.ref a1), .val (.int (0 : Int32)), .val (.int (Int32.ofNat mn)), .val (.int (Int32.ofNat mn)), .unset] [(.ref r)]) S0 := fun t kt => go6 t (st7 _ kt)
  have V_r : Arv Z h7 r k7 .byte (Int32.ofNat (mn)) (List.replicate (mn) (.int (0 : Int32))) (.int (0 : Int32)) := (Arv.new A7 (oN (by omega))).pad (pad_rep [] (.int (0 : Int32)) (mn))
  have ne_r_a1 := ne_a1_r.symm
  have go9 : Go p e below T7 (mkF m 20 #[.val (.ref a1), .val (.int (0 : Int32)), .val (.int (Int32.ofNat mn)), .val (.int (Int32.ofNat mn)), .val (.ref r)] [(.ref a1), (.int (0 : Int32)), (.ref r), (.int (0 : Int32)), (.ref a1)]) S0 := by
    intro tt kt
    refine go8 tt ?_
    refine XS.astore X7.here hx rfl (hb hby d41_12) rfl rfl (l' := #[.val (.ref a1), .val (.int (0 : Int32)), .val (.int (Int32.ofNat mn)), .val (.int (Int32.ofNat mn)), .val (.ref r)]) rfl ?_
    refine XS.aloadN X7.here hx rfl (hb hby d41_14) rfl rfl ?_
    refine XS.iloadN X7.here hx rfl (hb hby d41_15) rfl ?_
    refine XS.aload X7.here hx rfl (hb hby d41_16) rfl rfl ?_
    refine XS.iconst X7.here hx rfl (hb hby d41_18) ?_
    refine XS.aloadN X7.here hx rfl (hb hby d41_19) rfl rfl ?_
    exact kt
  obtain ⟨cl10, Ar10, q10, S10, N10, H10, G10⟩ := id V_a1
  have go11 : Go p e below T7 (mkF m 23 #[.val (.ref a1), .val (.int (0 : Int32)), .val (.int (Int32.ofNat mn)), .val (.int (Int32.ofNat mn)), .val (.ref r)] [(.int ((Int32.ofNat zl) - (0 : Int32))), (.int (0 : Int32)), (.ref r), (.int (0 : Int32)), (.ref a1)]) S0 := by
    intro tt kt
    refine go9 tt ?_
    refine X7.arraylength hx (by rw [e7]; exact Ar10.1) (State.isArrayOf_alike hZ.alike Ar10.2.1) (g := (mkF m 20 #[.val (.ref a1), .val (.int (0 : Int32)), .val (.int (Int32.ofNat mn)), .val (.int (Int32.ofNat mn)), .val (.ref r)] [(.ref a1), (.int (0 : Int32)), (.ref r), (.int (0 : Int32)), (.ref a1)])) rfl rfl (hb hby d41_20) _ ?_
    rw [len_of S10 N10]
    refine XS.iloadN X7.here hx rfl (hb hby d41_21) rfl ?_
    refine XS.isub X7.here hx rfl (hb hby d41_22) rfl ?_
    exact kt
  have cv12 : ((Int32.ofNat zl) - (0 : Int32)) = (Int32.ofNat zl) := (own_sub0 _)
  have go12 : Go p e below T7 (mkF m 23 #[.val (.ref a1), .val (.int (0 : Int32)), .val (.int (Int32.ofNat mn)), .val (.int (Int32.ofNat mn)), .val (.ref r)] [(.int (Int32.ofNat zl)), (.int (0 : Int32)), (.ref r), (.int (0 : Int32)), (.ref a1)]) S0 := by have q := go11; rw [cv12] at q; exact q
  have go13 : Go p e below T7 (mkF m 24 #[.val (.ref a1), .val (.int (0 : Int32)), .val (.int (Int32.ofNat mn)), .val (.int (Int32.ofNat mn)), .val (.ref r)] [(.int (Int32.ofNat mn)), (.int (Int32.ofNat zl)), (.int (0 : Int32)), (.ref r), (.int (0 : Int32)), (.ref a1)]) S0 := by
    intro tt kt
    refine go12 tt ?_
    refine XS.iloadN X7.here hx rfl (hb hby d41_23) rfl ?_
    exact kt
  obtain ⟨_, _, ⟨T14, L14, k14, n14⟩, -, X14, ⟨Lc14, hQ14, l14, y14, z14⟩, st14⟩ := Jvm.LawKit.callS X7 hx (y := y16_) hown (mvT hZ (wi hw 129 rfl)) (mvT hZ (wi hw 130 rfl)) (mvT hZ (wi hw 121 rfl)) (mvT hZ (wi hw 131 rfl)) (by decide) (backOf (W := 4) (rm_min2 l Z a0 hw [] (Int32.ofNat zl) (Int32.ofNat mn) h7 n0 Z0 (own_ltN hm (by omega))) hZ (wi hw 131 rfl) (wi hw 121 rfl) (by decide) (by decide)) (g := (mkF m 24 #[.val (.ref a1), .val (.int (0 : Int32)), .val (.int (Int32.ofNat mn)), .val (.int (Int32.ofNat mn)), .val (.ref r)] [(.int (Int32.ofNat mn)), (.int (Int32.ofNat zl)), (.int (0 : Int32)), (.ref r), (.int (0 : Int32)), (.ref a1)])) rfl (by rw [hml]; rfl) (argsL := [(.int (Int32.ofNat zl)), (.int (Int32.ofNat mn))]) (rest := [(.int (0 : Int32)), (.ref r), (.int (0 : Int32)), (.ref a1)]) (lenOf pd27_ rfl) rfl (by show 2 * 0 + _ ≤ _; exact Nat.le_of_eq rfl) (hb hby d41_24) (fun _ _ => ⟨rfl, e7, (by decide : 1 + 0 ≤ _), (by decide : 42 + 0 ≤ _)⟩)
  dsimp only [Pt.U, Pt.locs, Pt.cells, Pt.slots] at X14 l14 y14 z14 st14 hQ14
  subst l14 y14 z14
  obtain ⟨rfl, N14q, g14⟩ := hQ14
  have K0 := own_ks g14 K0
  rw [← g14] at V_a1 V_r Z0
  have N14 := Fr.app N2 N14q
  have go15 : Go p e below T14 (mkF m 27 #[.val (.ref a1), .val (.int (0 : Int32)), .val (.int (Int32.ofNat mn)), .val (.int (Int32.ofNat mn)), .val (.ref r)] [(.int (Int32.ofNat mn)), (.int (0 : Int32)), (.ref r), (.int (0 : Int32)), (.ref a1)]) S0 := fun t kt => go13 t (st14 _ kt)
  have c1 : (Int32.ofNat mn).toNatClampNeg = mn := oC (by omega)
  have c2 : (Int32.ofNat zl).toNatClampNeg = zl := oC (by omega)
  obtain ⟨T16, h16, L16, X16, e16, N16, K16, V16, st16⟩ := cpA X14 hx hZ hown (wi hw 132 rfl) (wi hw 135 rfl) (wi hw 133 rfl) (wi hw 134 rfl) rfl V_a1 V_r (Or.inl ⟨rfl, rfl⟩) (by decide) (by decide) (oN (by omega)) (by simp only [c1, c2, own_c0, List.length_replicate] <;> omega) (by simp only [c1, c2, own_c0, List.length_replicate] <;> omega) (us := (vs.take mn)) (by rw [c1, own_c0]; exact own_rng vs _ mn (by omega)) (by simp only [c1, c2, own_c0, List.length_replicate] <;> omega) N14 g_r (g := (mkF m 27 #[.val (.ref a1), .val (.int (0 : Int32)), .val (.int (Int32.ofNat mn)), .val (.int (Int32.ofNat mn)), .val (.ref r)] [(.int (Int32.ofNat mn)), (.int (0 : Int32)), (.ref r), (.int (0 : Int32)), (.ref a1)])) rfl (by rw [hml]; rfl) rfl (hb hby d41_27) (by decide) (W := 0) (by show 2 * 0 + _ ≤ _; exact Nat.le_of_eq rfl) (by decide)
  have V_a1 := V_a1.keep K16 (ninS ne_a1_r nin0)
  have V_r : Arv Z h16 r k7 .byte (Int32.ofNat (mn)) (vs.take mn) (.int (0 : Int32)) := oA V16 (by rw [c1, own_c0]; exact own_cpt _ _ _ (by simp))
  have Z0 := Nat.le_trans Z0 K16.1
  have K0 := K0.trans K16 (allS (Or.inr sz_r) all0)
  have go17 : Go p e below T16 (mkF m 30 #[.val (.ref a1), .val (.int (0 : Int32)), .val (.int (Int32.ofNat mn)), .val (.int (Int32.ofNat mn)), .val (.ref r)] []) S0 := fun t kt => go15 t (st16 _ kt)
  have go18 : Go p e below T16 (mkF m 32 #[.val (.ref a1), .val (.int (0 : Int32)), .val (.int (Int32.ofNat mn)), .val (.int (Int32.ofNat mn)), .val (.ref r)] [(.ref r)]) S0 := by
    intro tt kt
    refine go17 tt ?_
    refine XS.aload X16.here hx rfl (hb hby d41_30) rfl rfl ?_
    exact kt
  exact own_leaveA X16 hx hret hlk (hb hby d41_32) go18 e16 (⟨r, k7, rfl, N16, oE K0, V_r, sz_r⟩) (by decide) (by decide)
theorem pnj_42 : plainName "java/util/Arrays" = true := by first | (simp [plainName, overriddenIn]; done) | decide +kernel
theorem efj_rm_cr (m : MethodId) (a1 : Addr) (mn : Nat) : entryFrame m #[(.ref a1), (.int (0 : Int32)), (.int (Int32.ofNat mn))] 3 = mkF m 0 #[.val (.ref a1), .val (.int (0 : Int32)), .val (.int (Int32.ofNat mn))] [] := by first | (simp [entryFrame, mkF, argsToLocals, Value.category]; done) | rfl
theorem d42_0 : Dc c36 0 (.iload_n 1) 1 := by decide +kernel
theorem d42_1 : Dc c36 1 (.ifCond .ne 9) 3 := by decide +kernel
theorem d42_4 : Dc c36 4 (.iload_n 2) 1 := by decide +kernel
theorem d42_5 : Dc c36 5 (.aload_n 0) 1 := by decide +kernel
theorem d42_6 : Dc c36 6 (.arraylength) 1 := by decide +kernel
theorem d42_7 : Dc c36 7 (.if_icmp .eq 10) 3 := by decide +kernel
theorem d42_10 : Dc c36 10 (.aload_n 0) 1 := by decide +kernel
theorem d42_11 : Dc c36 11 (.iload_n 1) 1 := by decide +kernel
theorem d42_12 : Dc c36 12 (.iload_n 2) 1 := by decide +kernel
theorem pd16_ : parseMethodDescriptor "([BII)[B" = some ⟨[(.array .byte), .int, .int], some (.array .byte)⟩ := by decide +kernel
theorem d42_13 : Dc c36 13 (.invokestatic 339) 3 := by decide +kernel
theorem d42_16 : Dc c36 16 (.areturn) 1 := by decide +kernel
def Q_rm_cr (Z : State) (a1 : Addr) (mn : Nat) (k1 : ClassId) (zl : Nat) (vs : List Value) (h0 : Heap) (n0 : Nat) (v : Option Value) (h : Heap) (L : List Loc) : Prop := ∃ (r : Addr) (kr : ClassId), v = some (.ref r) ∧ Fr n0 L ∧ Ext h0 h ∧ Arv Z h r kr .byte (Int32.ofNat mn) (vs.take mn) (.int (0 : Int32)) ∧ h0.size ≤ r
theorem rm_cr (l : Launch) (Z : State) (a0 : Array Value) (hw : Hw a0 Z) (ws : List Jvm.Cond) (a1 : Addr) (mn : Nat) (k1 : ClassId) (zl : Nat) (vs : List Value) (h0 : Heap) (n0 : Nat) (Z0 : n0 ≤ h0.size) (V_a1 : Arv Z h0 a1 k1 .byte (Int32.ofNat zl) vs (.int (0 : Int32))) (hzl : zl = vs.length) (hm : mn < zl) (hm2 : mn ≤ 42) (hz2 : zl < 1000) :
    MF l y28_ jdk_65_method_132_code 3 (some (.array .byte)) ws (rM 2 1 42 34) #[(.ref a1), (.int (0 : Int32)), (.int (Int32.ofNat mn))] Z h0 (Q_rm_cr Z a1 mn k1 zl vs h0 n0) := by
  refine own_bodyF n0 (plainFor_of_name pnj_42) (fun m => efj_rm_cr m a1 mn) ?_
  intro p e s m below meth c s₁ S0 hx hby hml hZ hown hnm hret hlk X0 e0 hh N0 hK go0
  have go1 : Go p e below s₁ (mkF m 6 #[.val (.ref a1), .val (.int (0 : Int32)), .val (.int (Int32.ofNat mn))] [(.ref a1), (.int (Int32.ofNat mn))]) S0 := by
    intro tt kt
    refine go0 tt ?_
    refine XS.iloadN X0.here hx rfl (hb hby d42_0) rfl ?_
    refine XS.ifNo X0.here hx rfl (hb hby d42_1) rfl ((if0 _ _).trans (teq (rfl : (0 : Int32) = (0 : Int32))).2) ?_
    refine XS.iloadN X0.here hx rfl (hb hby d42_4) rfl ?_
    refine XS.aloadN X0.here hx rfl (hb hby d42_5) rfl rfl ?_
    exact kt
  obtain ⟨cl2, Ar2, q2, S2, N2, H2, G2⟩ := id V_a1
  have go3 : Go p e below s₁ (mkF m 13 #[.val (.ref a1), .val (.int (0 : Int32)), .val (.int (Int32.ofNat mn))] [(.int (Int32.ofNat mn)), (.int (0 : Int32)), (.ref a1)]) S0 := by
    intro tt kt
    refine go1 tt ?_
    refine X0.arraylength hx (by rw [e0]; exact Ar2.1) (State.isArrayOf_alike hZ.alike Ar2.2.1) (g := (mkF m 6 #[.val (.ref a1), .val (.int (0 : Int32)), .val (.int (Int32.ofNat mn))] [(.ref a1), (.int (Int32.ofNat mn))])) rfl rfl (hb hby d42_6) _ ?_
    rw [len_of S2 N2]
    refine XS.icmpNo X0.here hx rfl (hb hby d42_7) rfl (feq (fun q => absurd (own_ltN hm (by omega)) (by rw [q]; exact own_nltN (Nat.le_refl _) (by omega)))).1 ?_
    refine XS.aloadN X0.here hx rfl (hb hby d42_10) rfl rfl ?_
    refine XS.iloadN X0.here hx rfl (hb hby d42_11) rfl ?_
    refine XS.iloadN X0.here hx rfl (hb hby d42_12) rfl ?_
    exact kt
  obtain ⟨_, _, ⟨T4, L4, k4, n4⟩, -, X4, ⟨Lc4, hQ4, l4, y4, z4⟩, st4⟩ := Jvm.LawKit.callS X0 hx (y := y47_) hown (mvT hZ (wi hw 186 rfl)) (mvT hZ (wi hw 187 rfl)) (mvT hZ (wi hw 127 rfl)) (mvT hZ (wi hw 188 rfl)) (by decide) (backOf (W := 0) (rm_crb l Z a0 hw [] a1 mn k1 zl vs h0 n0 Z0 V_a1 hzl hm hm2 hz2) hZ (wi hw 188 rfl) (wi hw 127 rfl) (by decide) (by decide)) (g := (mkF m 13 #[.val (.ref a1), .val (.int (0 : Int32)), .val (.int (Int32.ofNat mn))] [(.int (Int32.ofNat mn)), (.int (0 : Int32)), (.ref a1)])) rfl (by rw [hml]; rfl) (argsL := [(.ref a1), (.int (0 : Int32)), (.int (Int32.ofNat mn))]) (rest := []) (lenOf pd16_ rfl) rfl (by show 2 * 0 + _ ≤ _; exact Nat.le_of_eq rfl) (hb hby d42_13) (fun _ _ => ⟨rfl, e0, (by decide : 0 + 1 ≤ _), (by decide : 0 + 42 ≤ _)⟩)
  dsimp only [Pt.U, Pt.locs, Pt.cells, Pt.slots] at X4 l4 y4 z4 st4 hQ4
  subst l4 y4 z4
  obtain ⟨r, kr, rfl, N4q, R4⟩ := hQ4
  have N4 := Fr.app N0 N4q
  have go5 : Go p e below T4 (mkF m 16 #[.val (.ref a1), .val (.int (0 : Int32)), .val (.int (Int32.ofNat mn))] [(.ref r)]) S0 := fun t kt => go3 t (st4 _ kt)
  exact own_leaveA X4 hx hret hlk (hb hby d42_16) go5 rfl (⟨r, kr, rfl, N4, R4⟩) (by decide) (by decide)
theorem pnj_43 : plainName "java/lang/String" = true := by first | (simp [plainName, overriddenIn]; done) | decide +kernel
theorem efj_rm_siA0 (m : MethodId) (a1 : Addr) (b : Addr) : entryFrame m #[(.ref a1), (.ref b), .null] 5 = mkF m 0 #[.val (.ref a1), .val (.ref b), .val .null, .unset, .unset] [] := by first | (simp [entryFrame, mkF, argsToLocals, Value.category]; done) | rfl
theorem d43_0 : Dc c6 0 (.aload_n 0) 1 := by decide +kernel
theorem d43_1 : Dc c6 1 (.invokespecial 1) 3 := by decide +kernel
theorem d43_4 : Dc c6 4 (.aload_n 1) 1 := by decide +kernel
theorem pd31_ : parseMethodDescriptor "()[B" = some ⟨[], some (.array .byte)⟩ := by decide +kernel
theorem d43_5 : Dc c6 5 (.invokevirtual 552) 3 := by decide +kernel
theorem d43_8 : Dc c6 8 (.astore_n 3) 1 := by decide +kernel
theorem d43_9 : Dc c6 9 (.aload_n 1) 1 := by decide +kernel
theorem d43_10 : Dc c6 10 (.invokevirtual 549) 3 := by decide +kernel
theorem d43_13 : Dc c6 13 (.istore 4) 2 := by decide +kernel
theorem d43_15 : Dc c6 15 (.aload_n 1) 1 := by decide +kernel
theorem d43_16 : Dc c6 16 (.invokevirtual 1047) 3 := by decide +kernel
theorem d43_19 : Dc c6 19 (.ifCond .eq 22) 3 := by decide +kernel
theorem d43_22 : Dc c6 22 (.aload_n 0) 1 := by decide +kernel
theorem d43_23 : Dc c6 23 (.iconst 0) 1 := by decide +kernel
theorem d43_24 : Dc c6 24 (.putfield 15) 3 := by decide +kernel
theorem d43_27 : Dc c6 27 (.aload_n 0) 1 := by decide +kernel
theorem d43_28 : Dc c6 28 (.aload_n 3) 1 := by decide +kernel
theorem d43_29 : Dc c6 29 (.iconst 0) 1 := by decide +kernel
theorem d43_30 : Dc c6 30 (.iload 4) 2 := by decide +kernel
theorem d43_32 : Dc c6 32 (.invokestatic 54) 3 := by decide +kernel
theorem d43_35 : Dc c6 35 (.putfield 9) 3 := by decide +kernel
theorem d43_38 : Dc c6 38 (.goto 59) 3 := by decide +kernel
theorem d43_97 : Dc c6 97 (.return_) 1 := by decide +kernel
def Q_rm_siA0 (Z : State) (a1 : Addr) (b : Addr) (u : Addr) (ku : ClassId) (mn : Nat) (zl : Nat) (vs : List Value) (zc : Int32) (h0 : Heap) (n0 : Nat) (v : Option Value) (h : Heap) (L : List Loc) : Prop := v = none ∧ Fr n0 L ∧ Keep h0 h [a1] ∧ Bn Z h h0.size a1 (0 : Int32) (vs.take mn)
theorem rm_siA0 (l : Launch) (Z : State) (a0 : Array Value) (hw : Hw a0 Z) (ws : List Jvm.Cond) (a1 : Addr) (b : Addr) (u : Addr) (ku : ClassId) (mn : Nat) (zl : Nat) (vs : List Value) (zc : Int32) (h0 : Heap) (n0 : Nat) (Z0 : n0 ≤ h0.size) (O0 : Ext Z.heap h0) (hn0 : Z.heap.size ≤ n0) (S_CS : Sta Z Z.heap "java/lang/String" "COMPACT_STRINGS" "Z" (.int zc)) (P5 : ¬ zc = (0 : Int32)) (E_b : Exa Z h0 b "java/lang/StringBuilder") (F_value_b : Fld Z h0 b "java/lang/AbstractStringBuilder" "value" "[B" (.ref u)) (F_coder_b : Fld Z h0 b "java/lang/AbstractStringBuilder" "coder" "B" (.int (0 : Int32))) (F_count_b : Fld Z h0 b "java/lang/AbstractStringBuilder" "count" "I" (.int (Int32.ofNat mn))) (F_maybeLatin1_b : Fld Z h0 b "java/lang/AbstractStringBuilder" "maybeLatin1" "Z" (.int (0 : Int32))) (V_u : Arv Z h0 u ku .byte (Int32.ofNat zl) vs (.int (0 : Int32))) (hzl : zl = vs.length) (hm : mn < zl) (hm2 : mn ≤ 42) (hz2 : zl < 1000) (E_a1 : Exa Z h0 a1 "java/lang/String") (F_value_a1 : Fld Z h0 a1 "java/lang/String" "value" "[B" .null) (F_coder_a1 : Fld Z h0 a1 "java/lang/String" "coder" "B" (.int (0 : Int32))) (g_a1 : n0 ≤ a1) (ne_b_a1 : b ≠ a1) (ne_u_a1 : u ≠ a1) :
    MF l y15_ jdk_42_method_150_code 5 none ws (rM 3 1 42 49) #[(.ref a1), (.ref b), .null] Z h0 (Q_rm_siA0 Z a1 b u ku mn zl vs zc h0 n0) := by
  refine own_bodyF n0 (plainFor_of_name pnj_43) (fun m => efj_rm_siA0 m a1 b) ?_
  intro p e s m below meth c s₁ S0 hx hby hml hZ hown hnm hret hlk X0 e0 hh N0 hK go0
  have K0 : Keep h0 h0 [a1] := Keep.refl h0 [a1]
  have go1 : Go p e below s₁ (mkF m 1 #[.val (.ref a1), .val (.ref b), .val .null, .unset, .unset] [(.ref a1)]) S0 := by
    intro tt kt
    refine go0 tt ?_
    refine XS.aloadN X0.here hx rfl (hb hby d43_0) rfl rfl ?_
    exact kt
  obtain ⟨T2, X2, e2, st2⟩ := initO X0 hx hZ hown (wi hw 12 rfl) (wi hw 13 rfl) (wi hw 14 rfl) e0 (g := (mkF m 1 #[.val (.ref a1), .val (.ref b), .val .null, .unset, .unset] [(.ref a1)])) rfl (by rw [hml]; rfl) rfl (hb hby d43_1) (by decide) (W := 0) (by show 2 * 0 + _ ≤ _; exact Nat.le_of_eq rfl) (by decide)
  have go3 : Go p e below T2 (mkF m 4 #[.val (.ref a1), .val (.ref b), .val .null, .unset, .unset] []) S0 := fun t kt => go1 t (st2 _ kt)
  have go4 : Go p e below T2 (mkF m 5 #[.val (.ref a1), .val (.ref b), .val .null, .unset, .unset] [(.ref b)]) S0 := by
    intro tt kt
    refine go3 tt ?_
    refine XS.aloadN X2.here hx rfl (hb hby d43_4) rfl rfl ?_
    exact kt
  obtain ⟨cq5, kq5, q5a, q5b, q5c⟩ := isOf hZ e2 E_b
  obtain ⟨_, _, ⟨T5, L5, k5, n5⟩, -, X5, ⟨Lc5, hQ5, l5, y5, z5⟩, st5⟩ := X2.virtualBack hx (y := y13_) (z := y13_) hown (mvT hZ (wi hw 165 rfl)) (mvT hZ (wi hw 166 rfl)) (notFace_of_selects (args := #[]) (mvT hZ (wi hw 168 rfl))) (mvT hZ (wi hw 168 rfl)) (mvT hZ (wi hw 167 rfl)) (by decide) (backOf (W := 0) (rm_gv l Z a0 hw [] b u h0 n0 Z0 F_value_b) hZ (wi hw 169 rfl) (wi hw 74 rfl) (by decide) (by decide)) q5a q5c (g := (mkF m 5 #[.val (.ref a1), .val (.ref b), .val .null, .unset, .unset] [(.ref b)])) rfl (by rw [hml]; rfl) (Steps.refl _) (argsL := []) (rest := []) (lenOf pd31_ rfl) rfl (by show 2 * 0 + _ ≤ _; exact Nat.le_of_eq rfl) (hb hby d43_5) (fun _ _ => ⟨rfl, e2, (by decide : 0 + 0 ≤ _), (by decide : 0 + 0 ≤ _)⟩)
  dsimp only [Pt.U, Pt.locs, Pt.cells, Pt.slots] at X5 l5 y5 z5 st5 hQ5
  subst l5 y5 z5
  obtain ⟨rfl, N5q, g5⟩ := hQ5
  have K0 := own_ks g5 K0
  rw [← g5] at E_b F_value_b F_coder_b F_count_b F_maybeLatin1_b V_u E_a1 F_value_a1 F_coder_a1 Z0
  have N5 := Fr.app N0 N5q
  have go6 : Go p e below T5 (mkF m 8 #[.val (.ref a1), .val (.ref b), .val .null, .unset, .unset] [(.ref u)]) S0 := fun t kt => go4 t (st5.trans kt)
  have go7 : Go p e below T5 (mkF m 10 #[.val (.ref a1), .val (.ref b), .val .null, .val (.ref u), .unset] [(.ref b)]) S0 := by
    intro tt kt
    refine go6 tt ?_
    refine XS.astoreN X5.here hx rfl (hb hby d43_8) rfl rfl (l' := #[.val (.ref a1), .val (.ref b), .val .null, .val (.ref u), .unset]) rfl ?_
    refine XS.aloadN X5.here hx rfl (hb hby d43_9) rfl rfl ?_
    exact kt
  obtain ⟨cq8, kq8, q8a, q8b, q8c⟩ := isOf hZ rfl E_b
  obtain ⟨_, _, ⟨T8, L8, k8, n8⟩, -, X8, ⟨Lc8, hQ8, l8, y8, z8⟩, st8⟩ := X5.virtualBack hx (y := y14_) (z := y29_) hown (mvT hZ (wi hw 170 rfl)) (mvT hZ (wi hw 171 rfl)) (own_nf (args := #[]) (mvT hZ (wi hw 168 rfl)) rfl) (mvT hZ (wi hw 173 rfl)) (mvT hZ (wi hw 174 rfl)) (by decide) (backOf (W := 0) (rm_sbl l Z a0 hw [] b (Int32.ofNat mn) T5.heap n0 Z0 E_b F_count_b) hZ (wi hw 175 rfl) (wi hw 66 rfl) (by decide) (by decide)) q8a q8c (g := (mkF m 10 #[.val (.ref a1), .val (.ref b), .val .null, .val (.ref u), .unset] [(.ref b)])) rfl (by rw [hml]; rfl) (Steps.refl _) (argsL := []) (rest := []) (lenOf pd37_ rfl) rfl (by show 2 * 0 + _ ≤ _; exact Nat.le_of_eq rfl) (hb hby d43_10) (fun _ _ => ⟨rfl, rfl, (by decide : 0 + 0 ≤ _), (by decide : 0 + 0 ≤ _)⟩)
  dsimp only [Pt.U, Pt.locs, Pt.cells, Pt.slots] at X8 l8 y8 z8 st8 hQ8
  subst l8 y8 z8
  obtain ⟨rfl, N8q, g8⟩ := hQ8
  have K0 := own_ks g8 K0
  rw [← g8] at E_b F_value_b F_coder_b F_count_b F_maybeLatin1_b V_u E_a1 F_value_a1 F_coder_a1 Z0
  have N8 := Fr.app N5 N8q
  have go9 : Go p e below T8 (mkF m 13 #[.val (.ref a1), .val (.ref b), .val .null, .val (.ref u), .unset] [(.int (Int32.ofNat mn))]) S0 := fun t kt => go7 t (st8.trans kt)
  have go10 : Go p e below T8 (mkF m 16 #[.val (.ref a1), .val (.ref b), .val .null, .val (.ref u), .val (.int (Int32.ofNat mn))] [(.ref b)]) S0 := by
    intro tt kt
    refine go9 tt ?_
    refine XS.istore X8.here hx rfl (hb hby d43_13) rfl (l' := #[.val (.ref a1), .val (.ref b), .val .null, .val (.ref u), .val (.int (Int32.ofNat mn))]) rfl ?_
    refine XS.aloadN X8.here hx rfl (hb hby d43_15) rfl rfl ?_
    exact kt
  obtain ⟨cq11, kq11, q11a, q11b, q11c⟩ := isOf hZ rfl E_b
  obtain ⟨_, _, ⟨T11, L11, k11, n11⟩, -, X11, ⟨Lc11, hQ11, l11, y11, z11⟩, st11⟩ := X8.virtualBack hx (y := y2_) (z := y2_) hown (mvT hZ (wi hw 178 rfl)) (mvT hZ (wi hw 179 rfl)) (notFace_of_selects (args := #[]) (mvT hZ (wi hw 181 rfl))) (mvT hZ (wi hw 181 rfl)) (mvT hZ (wi hw 180 rfl)) (by decide) (backOf (W := 0) (rm_isl0 l Z a0 hw [] b zc T8.heap n0 Z0 (oO O0 K0 hn0 (allS g_a1 all0)) hn0 S_CS P5 F_coder_b) hZ (wi hw 182 rfl) (wi hw 74 rfl) (by decide) (by decide)) q11a q11c (g := (mkF m 16 #[.val (.ref a1), .val (.ref b), .val .null, .val (.ref u), .val (.int (Int32.ofNat mn))] [(.ref b)])) rfl (by rw [hml]; rfl) (Steps.refl _) (argsL := []) (rest := []) (lenOf pd35_ rfl) rfl (by show 2 * 0 + _ ≤ _; exact Nat.le_of_eq rfl) (hb hby d43_16) (fun _ _ => ⟨rfl, rfl, (by decide : 0 + 0 ≤ _), (by decide : 0 + 0 ≤ _)⟩)
  dsimp only [Pt.U, Pt.locs, Pt.cells, Pt.slots] at X11 l11 y11 z11 st11 hQ11
  subst l11 y11 z11
  obtain ⟨rfl, N11q, g11⟩ := hQ11
  have K0 := own_ks g11 K0
  rw [← g11] at E_b F_value_b F_coder_b F_count_b F_maybeLatin1_b V_u E_a1 F_value_a1 F_coder_a1 Z0
  have N11 := Fr.app N8 N11q
  have go12 : Go p e below T11 (mkF m 19 #[.val (.ref a1), .val (.ref b), .val .null, .val (.ref u), .val (.int (Int32.ofNat mn))] [(.int (1 : Int32))]) S0 := fun t kt => go10 t (st11.trans kt)
  have go13 : Go p e below T11 (mkF m 24 #[.val (.ref a1), .val (.ref b), .val .null, .val (.ref u), .val (.int (Int32.ofNat mn))] [(.int (0 : Int32)), (.ref a1)]) S0 := by
    intro tt kt
    refine go12 tt ?_
    refine XS.ifNo X11.here hx rfl (hb hby d43_19) rfl ((if0 _ _).trans (feq (by decide)).1) ?_
    refine XS.aloadN X11.here hx rfl (hb hby d43_22) rfl rfl ?_
    refine XS.iconst X11.here hx rfl (hb hby d43_23) ?_
    exact kt
  obtain ⟨T14, h14, X14, e14, W14, st14⟩ := putFN X11 hx hZ hown (wi hw 22 rfl) Via.refl rfl F_coder_a1 E_a1 (Or.inr ⟨(wi hw 18 rfl), rfl, hnm⟩) (wi hw 3 rfl) (ty := .byte) (v' := (.int (0 : Int32))) (by decide) rfl rfl (g := (mkF m 24 #[.val (.ref a1), .val (.ref b), .val .null, .val (.ref u), .val (.int (Int32.ofNat mn))] [(.int (0 : Int32)), (.ref a1)])) rfl rfl (hb hby d43_24)
  have E_b := E_b.wr W14
  have F_value_b := F_value_b.other W14 (Or.inl ne_b_a1)
  have F_coder_b := F_coder_b.other W14 (Or.inl ne_b_a1)
  have F_count_b := F_count_b.other W14 (Or.inl ne_b_a1)
  have F_maybeLatin1_b := F_maybeLatin1_b.other W14 (Or.inl ne_b_a1)
  have V_u := V_u.other W14 ne_u_a1
  have E_a1 := E_a1.wr W14
  have F_value_a1 := F_value_a1.other W14 (Or.inr (slot_ne (Or.inr (wi hw 17 rfl)) (Or.inr (wi hw 18 rfl)) (by decide) (t := (.array .byte)) (t' := .byte) (by decide) (by decide)))
  have F_coder_a1 := F_coder_a1.same W14
  have Z0 := Nat.le_trans Z0 (Keep.of_wr W14).1
  have K0 := K0.wr W14 (Or.inl (List.mem_of_getElem? (i := 0) rfl))
  have N14r := Fr.snoc X14 N11 g_a1
  have go15 : Go p e below T14 (mkF m 27 #[.val (.ref a1), .val (.ref b), .val .null, .val (.ref u), .val (.int (Int32.ofNat mn))] []) S0 := fun t kt => go13 t (st14 _ kt)
  have go16 : Go p e below T14 (mkF m 32 #[.val (.ref a1), .val (.ref b), .val .null, .val (.ref u), .val (.int (Int32.ofNat mn))] [(.int (Int32.ofNat mn)), (.int (0 : Int32)), (.ref u), (.ref a1)]) S0 := by
    intro tt kt
    refine go15 tt ?_
    refine XS.aloadN X14.here hx rfl (hb hby d43_27) rfl rfl ?_
    refine XS.aloadN X14.here hx rfl (hb hby d43_28) rfl rfl ?_
    refine XS.iconst X14.here hx rfl (hb hby d43_29) ?_
    refine XS.iload X14.here hx rfl (hb hby d43_30) rfl ?_
    exact kt
  obtain ⟨_, _, ⟨T17, L17, k17, n17⟩, -, X17, ⟨Lc17, hQ17, l17, y17, z17⟩, st17⟩ := Jvm.LawKit.callS X14 hx (y := y28_) hown (mvT hZ (wi hw 183 rfl)) (mvT hZ (wi hw 184 rfl)) (mvT hZ (wi hw 127 rfl)) (mvT hZ (wi hw 185 rfl)) (by decide) (backOf (W := 1) (rm_cr l Z a0 hw [] u mn ku zl vs h14 n0 Z0 V_u hzl hm hm2 hz2) hZ (wi hw 185 rfl) (wi hw 127 rfl) (by decide) (by decide)) (g := (mkF m 32 #[.val (.ref a1), .val (.ref b), .val .null, .val (.ref u), .val (.int (Int32.ofNat mn))] [(.int (Int32.ofNat mn)), (.int (0 : Int32)), (.ref u), (.ref a1)])) rfl (by rw [hml]; rfl) (argsL := [(.ref u), (.int (0 : Int32)), (.int (Int32.ofNat mn))]) (rest := [(.ref a1)]) (lenOf pd16_ rfl) rfl (by show 2 * 0 + _ ≤ _; exact Nat.le_of_eq rfl) (hb hby d43_32) (fun _ _ => ⟨rfl, e14, (by decide : 0 + 1 ≤ _), (by decide : 0 + 42 ≤ _)⟩)
  dsimp only [Pt.U, Pt.locs, Pt.cells, Pt.slots] at X17 l17 y17 z17 st17 hQ17
  subst l17 y17 z17
  obtain ⟨r, kr, rfl, N17q, E17, V_r, sz_r⟩ := hQ17
  have ne_r_a1 : r ≠ a1 := oL E_a1.lt sz_r
  have sz_r := Nat.le_trans K0.1 sz_r
  have E_a1 := E_a1.ext E17
  have F_value_a1 := F_value_a1.ext E17
  have F_coder_a1 := F_coder_a1.ext E17
  have Z0 := Nat.le_trans Z0 E17.1
  have K0 := K0.ext E17
  have N17 := Fr.app N14r N17q
  have go18 : Go p e below T17 (mkF m 35 #[.val (.ref a1), .val (.ref b), .val .null, .val (.ref u), .val (.int (Int32.ofNat mn))] [(.ref r), (.ref a1)]) S0 := fun t kt => go16 t (st17 _ kt)
  obtain ⟨T19, h19, X19, e19, W19, st19⟩ := putF X17 hx hZ hown (host := "") (Or.inl (wi hw 21 rfl)) Via.refl rfl F_value_a1 E_a1 (Or.inr ⟨(wi hw 17 rfl), rfl, hnm⟩) (wi hw 3 rfl) (ty := (.array .byte)) (by decide) rfl rfl (g := (mkF m 35 #[.val (.ref a1), .val (.ref b), .val .null, .val (.ref u), .val (.int (Int32.ofNat mn))] [(.ref r), (.ref a1)])) rfl rfl (hb hby d43_35)
  have E_a1 := E_a1.wr W19
  have F_coder_a1 := F_coder_a1.other W19 (Or.inr (slot_ne (Or.inr (wi hw 18 rfl)) (Or.inr (wi hw 17 rfl)) (by decide) (t := .byte) (t' := (.array .byte)) (by decide) (by decide)))
  have V_r := V_r.other W19 ne_r_a1
  have F_value_a1 := F_value_a1.same W19
  have Z0 := Nat.le_trans Z0 (Keep.of_wr W19).1
  have K0 := K0.wr W19 (Or.inl (List.mem_of_getElem? (i := 0) rfl))
  have N19r := Fr.snoc X19 N17 g_a1
  have go20 : Go p e below T19 (mkF m 38 #[.val (.ref a1), .val (.ref b), .val .null, .val (.ref u), .val (.int (Int32.ofNat mn))] []) S0 := fun t kt => go18 t (st19 _ kt)
  have hlen : (vs.take mn).length = mn := by rw [List.length_take]; omega
  have go21 : Go p e below T19 (mkF m 97 #[.val (.ref a1), .val (.ref b), .val .null, .val (.ref u), .val (.int (Int32.ofNat mn))] []) S0 := by
    intro tt kt
    refine go20 tt ?_
    refine XS.goto X19.here hx rfl (pc0 := 38) (pc' := 97) rfl (hb hby d43_38) (by decide) (by decide) ?_
    exact kt
  exact own_leaveV X19 hx hret hlk (hb hby d43_97) go21 e19 (⟨rfl, N19r, K0, r, kr, sz_r, E_a1, F_coder_a1, F_value_a1, by rw [hlen]; exact V_r⟩) (by decide) (by decide)
theorem pnj_44 : plainName "java/lang/String" = true := by first | (simp [plainName, overriddenIn]; done) | decide +kernel
theorem efj_rm_siB0 (m : MethodId) (a1 : Addr) (b : Addr) : entryFrame m #[(.ref a1), (.ref b)] 2 = mkF m 0 #[.val (.ref a1), .val (.ref b)] [] := by first | (simp [entryFrame, mkF, argsToLocals, Value.category]; done) | rfl
theorem d44_0 : Dc c12 0 (.aload_n 0) 1 := by decide +kernel
theorem d44_1 : Dc c12 1 (.aload_n 1) 1 := by decide +kernel
theorem d44_2 : Dc c12 2 (.aconst_null) 1 := by decide +kernel
theorem pd2_ : parseMethodDescriptor "(Ljava/lang/AbstractStringBuilder;Ljava/lang/Void;)V" = some ⟨[(.object "java/lang/AbstractStringBuilder"), (.object "java/lang/Void")], none⟩ := by decide +kernel
theorem d44_3 : Dc c12 3 (.invokespecial 489) 3 := by decide +kernel
theorem d44_6 : Dc c12 6 (.return_) 1 := by decide +kernel
def Q_rm_siB0 (Z : State) (a1 : Addr) (b : Addr) (u : Addr) (ku : ClassId) (mn : Nat) (zl : Nat) (vs : List Value) (zc : Int32) (h0 : Heap) (n0 : Nat) (v : Option Value) (h : Heap) (L : List Loc) : Prop := v = none ∧ Fr n0 L ∧ Keep h0 h [a1] ∧ Bn Z h h0.size a1 (0 : Int32) (vs.take mn)
theorem rm_siB0 (l : Launch) (Z : State) (a0 : Array Value) (hw : Hw a0 Z) (ws : List Jvm.Cond) (a1 : Addr) (b : Addr) (u : Addr) (ku : ClassId) (mn : Nat) (zl : Nat) (vs : List Value) (zc : Int32) (h0 : Heap) (n0 : Nat) (Z0 : n0 ≤ h0.size) (O0 : Ext Z.heap h0) (hn0 : Z.heap.size ≤ n0) (S_CS : Sta Z Z.heap "java/lang/String" "COMPACT_STRINGS" "Z" (.int zc)) (P5 : ¬ zc = (0 : Int32)) (E_b : Exa Z h0 b "java/lang/StringBuilder") (F_value_b : Fld Z h0 b "java/lang/AbstractStringBuilder" "value" "[B" (.ref u)) (F_coder_b : Fld Z h0 b "java/lang/AbstractStringBuilder" "coder" "B" (.int (0 : Int32))) (F_count_b : Fld Z h0 b "java/lang/AbstractStringBuilder" "count" "I" (.int (Int32.ofNat mn))) (F_maybeLatin1_b : Fld Z h0 b "java/lang/AbstractStringBuilder" "maybeLatin1" "Z" (.int (0 : Int32))) (V_u : Arv Z h0 u ku .byte (Int32.ofNat zl) vs (.int (0 : Int32))) (hzl : zl = vs.length) (hm : mn < zl) (hm2 : mn ≤ 42) (hz2 : zl < 1000) (E_a1 : Exa Z h0 a1 "java/lang/String") (F_value_a1 : Fld Z h0 a1 "java/lang/String" "value" "[B" .null) (F_coder_a1 : Fld Z h0 a1 "java/lang/String" "coder" "B" (.int (0 : Int32))) (g_a1 : n0 ≤ a1) (ne_b_a1 : b ≠ a1) (ne_u_a1 : u ≠ a1) :
    MF l y19_ jdk_42_method_53_code 2 none ws (rM 4 1 42 65) #[(.ref a1), (.ref b)] Z h0 (Q_rm_siB0 Z a1 b u ku mn zl vs zc h0 n0) := by
  refine own_bodyF n0 (plainFor_of_name pnj_44) (fun m => efj_rm_siB0 m a1 b) ?_
  intro p e s m below meth c s₁ S0 hx hby hml hZ hown hnm hret hlk X0 e0 hh N0 hK go0
  have go1 : Go p e below s₁ (mkF m 3 #[.val (.ref a1), .val (.ref b)] [.null, (.ref b), (.ref a1)]) S0 := by
    intro tt kt
    refine go0 tt ?_
    refine XS.aloadN X0.here hx rfl (hb hby d44_0) rfl rfl ?_
    refine XS.aloadN X0.here hx rfl (hb hby d44_1) rfl rfl ?_
    refine XS.aconstNull X0.here hx rfl (hb hby d44_2) ?_
    exact kt
  obtain ⟨_, _, ⟨T2, L2, k2, n2⟩, -, X2, ⟨Lc2, hQ2, l2, y2, z2⟩, st2⟩ := X0.specialBack hx (y := y15_) rfl hown (mvT hZ (wi hw 162 rfl)) (mvT hZ (wi hw 163 rfl)) (mvT hZ (wi hw 164 rfl)) (by decide) (backOf (W := 0) (rm_siA0 l Z a0 hw [] a1 b u ku mn zl vs zc h0 n0 Z0 O0 hn0 S_CS P5 E_b F_value_b F_coder_b F_count_b F_maybeLatin1_b V_u hzl hm hm2 hz2 E_a1 F_value_a1 F_coder_a1 g_a1 ne_b_a1 ne_u_a1) hZ (wi hw 164 rfl) (wi hw 4 rfl) (by decide) (by decide)) (g := (mkF m 3 #[.val (.ref a1), .val (.ref b)] [.null, (.ref b), (.ref a1)])) rfl (by rw [hml]; rfl) (Steps.refl _) (a := a1) (argsL := [(.ref b), .null]) (rest := []) (lenOf pd2_ rfl) rfl (by show 2 * 0 + _ ≤ _; exact Nat.le_of_eq rfl) (hb hby d44_3) (fun _ _ => ⟨rfl, e0, (by decide : 0 + 1 ≤ _), (by decide : 0 + 42 ≤ _)⟩)
  dsimp only [Pt.U, Pt.locs, Pt.cells, Pt.slots] at X2 l2 y2 z2 st2 hQ2
  subst l2 y2 z2
  obtain ⟨rfl, N2q, R2⟩ := hQ2
  have N2 := Fr.app N0 N2q
  have go3 : Go p e below T2 (mkF m 6 #[.val (.ref a1), .val (.ref b)] []) S0 := fun t kt => go1 t (st2.trans kt)
  exact own_leaveV X2 hx hret hlk (hb hby d44_6) go3 rfl (⟨rfl, N2, R2⟩) (by decide) (by decide)
theorem pnj_45 : plainName "java/lang/StringBuilder" = true := by first | (simp [plainName, overriddenIn]; done) | decide +kernel
theorem efj_rm_ts0 (m : MethodId) (b : Addr) : entryFrame m #[(.ref b)] 1 = mkF m 0 #[.val (.ref b)] [] := by first | (simp [entryFrame, mkF, argsToLocals, Value.category]; done) | rfl
theorem d45_0 : Dc c39 0 (.new 18) 3 := by decide +kernel
theorem d45_3 : Dc c39 3 (.dup) 1 := by decide +kernel
theorem d45_4 : Dc c39 4 (.aload_n 0) 1 := by decide +kernel
theorem pd7_ : parseMethodDescriptor "(Ljava/lang/StringBuilder;)V" = some ⟨[(.object "java/lang/StringBuilder")], none⟩ := by decide +kernel
theorem d45_5 : Dc c39 5 (.invokespecial 137) 3 := by decide +kernel
theorem d45_8 : Dc c39 8 (.areturn) 1 := by decide +kernel
def Q_rm_ts0 (Z : State) (b : Addr) (u : Addr) (ku : ClassId) (mn : Nat) (zl : Nat) (vs : List Value) (zc : Int32) (h0 : Heap) (n0 : Nat) (v : Option Value) (h : Heap) (L : List Loc) : Prop := ∃ (s_ : Addr), v = some (.ref s_) ∧ Fr n0 L ∧ Ext h0 h ∧ h0.size ≤ s_ ∧ Bn Z h h0.size s_ (0 : Int32) (vs.take mn)
theorem rm_ts0 (l : Launch) (Z : State) (a0 : Array Value) (hw : Hw a0 Z) (ws : List Jvm.Cond) (b : Addr) (u : Addr) (ku : ClassId) (mn : Nat) (zl : Nat) (vs : List Value) (zc : Int32) (h0 : Heap) (n0 : Nat) (Z0 : n0 ≤ h0.size) (O0 : Ext Z.heap h0) (hn0 : Z.heap.size ≤ n0) (S_CS : Sta Z Z.heap "java/lang/String" "COMPACT_STRINGS" "Z" (.int zc)) (P5 : ¬ zc = (0 : Int32)) (E_b : Exa Z h0 b "java/lang/StringBuilder") (F_value_b : Fld Z h0 b "java/lang/AbstractStringBuilder" "value" "[B" (.ref u)) (F_coder_b : Fld Z h0 b "java/lang/AbstractStringBuilder" "coder" "B" (.int (0 : Int32))) (F_count_b : Fld Z h0 b "java/lang/AbstractStringBuilder" "count" "I" (.int (Int32.ofNat mn))) (F_maybeLatin1_b : Fld Z h0 b "java/lang/AbstractStringBuilder" "maybeLatin1" "Z" (.int (0 : Int32))) (V_u : Arv Z h0 u ku .byte (Int32.ofNat zl) vs (.int (0 : Int32))) (hzl : zl = vs.length) (hm : mn < zl) (hm2 : mn ≤ 42) (hz2 : zl < 1000) :
    MF l y5_ jdk_67_method_42_code 1 (some (.object "java/lang/String")) ws (rM 5 2 46 79) #[(.ref b)] Z h0 (Q_rm_ts0 Z b u ku mn zl vs zc h0 n0) := by
  refine own_bodyF n0 (plainFor_of_name pnj_45) (fun m => efj_rm_ts0 m b) ?_
  intro p e s m below meth c s₁ S0 hx hby hml hZ hown hnm hret hlk X0 e0 hh N0 hK go0
  have K0 : Keep h0 h0 [] := Keep.refl h0 []
  have lt_b := E_b.lt
  have lt_u := V_u.lt
  obtain ⟨T1, h1, X1, e1, E1, A1, D1, -, st1⟩ := newO X0 hx hZ hown (wi hw 158 rfl) (wi hw 3 rfl) (wi hw 4 rfl) e0 (g := (mkF m 0 #[.val (.ref b)] [])) rfl (hb hby d45_0) (by decide) (by decide)
  obtain ⟨s_, g1⟩ : ∃ z, z = h0.size := ⟨_, rfl⟩
  rw [← g1] at A1 D1 st1
  have g_s_ : n0 ≤ s_ := Nat.le_trans Z0 (Nat.le_of_eq g1.symm)
  have sz_s_ : h0.size ≤ s_ := Nat.le_trans K0.1 (Nat.le_of_eq g1.symm)
  have E_b := E_b.ext E1
  have F_value_b := F_value_b.ext E1
  have F_coder_b := F_coder_b.ext E1
  have F_count_b := F_count_b.ext E1
  have F_maybeLatin1_b := F_maybeLatin1_b.ext E1
  have V_u := V_u.ext E1
  have Z0 := Nat.le_trans Z0 E1.1
  have K0 := K0.ext E1
  have go2 : Go p e below T1 (mkF m 3 #[.val (.ref b)] [(.ref s_)]) S0 := fun t kt => go0 t (st1 _ kt)
  have E_s_ := A1
  have F_value_s_ : Fld Z h1 s_ "java/lang/String" "value" "[B" .null := D1 (Or.inr (wi hw 17 rfl)) (ty := (.array .byte)) (by decide)
  have F_coder_s_ : Fld Z h1 s_ "java/lang/String" "coder" "B" (.int (0 : Int32)) := D1 (Or.inr (wi hw 18 rfl)) (ty := .byte) (by decide)
  have ne_b_s : b ≠ s_ := oR lt_b sz_s_
  have ne_u_s : u ≠ s_ := oR lt_u sz_s_
  have go3 : Go p e below T1 (mkF m 5 #[.val (.ref b)] [(.ref b), (.ref s_), (.ref s_)]) S0 := by
    intro tt kt
    refine go2 tt ?_
    refine XS.dup X1.here hx rfl (hb hby d45_3) rfl rfl ?_
    refine XS.aloadN X1.here hx rfl (hb hby d45_4) rfl rfl ?_
    exact kt
  obtain ⟨_, _, ⟨T4, L4, k4, n4⟩, -, X4, ⟨Lc4, hQ4, l4, y4, z4⟩, st4⟩ := X1.specialBack hx (y := y19_) rfl hown (mvT hZ (wi hw 159 rfl)) (mvT hZ (wi hw 160 rfl)) (mvT hZ (wi hw 161 rfl)) (by decide) (backOf (W := 1) (rm_siB0 l Z a0 hw [] s_ b u ku mn zl vs zc h1 n0 Z0 (oO O0 K0 hn0 all0) hn0 S_CS P5 E_b F_value_b F_coder_b F_count_b F_maybeLatin1_b V_u hzl hm hm2 hz2 E_s_ F_value_s_ F_coder_s_ g_s_ ne_b_s ne_u_s) hZ (wi hw 161 rfl) (wi hw 4 rfl) (by decide) (by decide)) (g := (mkF m 5 #[.val (.ref b)] [(.ref b), (.ref s_), (.ref s_)])) rfl (by rw [hml]; rfl) (Steps.refl _) (a := s_) (argsL := [(.ref b)]) (rest := [(.ref s_)]) (lenOf pd7_ rfl) rfl (by show 2 * 0 + _ ≤ _; exact Nat.le_of_eq rfl) (hb hby d45_5) (fun _ _ => ⟨rfl, e1, (by decide : 1 + 1 ≤ _), (by decide : 4 + 42 ≤ _)⟩)
  dsimp only [Pt.U, Pt.locs, Pt.cells, Pt.slots] at X4 l4 y4 z4 st4 hQ4
  subst l4 y4 z4
  obtain ⟨rfl, N4q, K4, B4⟩ := hQ4
  have B4 := B4.mono K0.1
  have K0 := K0.trans K4 (allS (Or.inr sz_s_) all0)
  have N4 := Fr.app N0 N4q
  have go5 : Go p e below T4 (mkF m 8 #[.val (.ref b)] [(.ref s_)]) S0 := fun t kt => go3 t (st4.trans kt)
  exact own_leaveO X4 hx hret hlk (hb hby d45_8) go5 rfl (⟨s_, rfl, N4, oE K0, sz_s_, B4⟩) (by decide) (by decide)
theorem efj_rm_siA1 (m : MethodId) (a1 : Addr) (b : Addr) : entryFrame m #[(.ref a1), (.ref b), .null] 5 = mkF m 0 #[.val (.ref a1), .val (.ref b), .val .null, .unset, .unset] [] := by first | (simp [entryFrame, mkF, argsToLocals, Value.category]; done) | rfl
theorem d43_41 : Dc c6 41 (.getstatic 38) 3 := by decide +kernel
theorem d43_44 : Dc c6 44 (.ifCond .eq 35) 3 := by decide +kernel
theorem d43_47 : Dc c6 47 (.aload_n 1) 1 := by decide +kernel
theorem d43_48 : Dc c6 48 (.getfield 1048) 3 := by decide +kernel
theorem d43_51 : Dc c6 51 (.ifCond .eq 28) 3 := by decide +kernel
theorem d43_79 : Dc c6 79 (.aload_n 0) 1 := by decide +kernel
theorem d43_80 : Dc c6 80 (.iconst 1) 1 := by decide +kernel
theorem d43_81 : Dc c6 81 (.putfield 15) 3 := by decide +kernel
theorem d43_84 : Dc c6 84 (.aload_n 0) 1 := by decide +kernel
theorem d43_85 : Dc c6 85 (.aload_n 3) 1 := by decide +kernel
theorem d43_86 : Dc c6 86 (.iconst 0) 1 := by decide +kernel
theorem d43_87 : Dc c6 87 (.iload 4) 2 := by decide +kernel
theorem d43_89 : Dc c6 89 (.iconst 1) 1 := by decide +kernel
theorem d43_90 : Dc c6 90 (.ishl) 1 := by decide +kernel
theorem d43_91 : Dc c6 91 (.invokestatic 54) 3 := by decide +kernel
theorem d43_94 : Dc c6 94 (.putfield 9) 3 := by decide +kernel
def Q_rm_siA1 (Z : State) (a1 : Addr) (b : Addr) (u : Addr) (ku : ClassId) (mn : Nat) (zl : Nat) (vs : List Value) (zc : Int32) (h0 : Heap) (n0 : Nat) (v : Option Value) (h : Heap) (L : List Loc) : Prop := v = none ∧ Fr n0 L ∧ Keep h0 h [a1] ∧ Bn Z h h0.size a1 (1 : Int32) (vs.take (2 * mn))
theorem rm_siA1 (l : Launch) (Z : State) (a0 : Array Value) (hw : Hw a0 Z) (ws : List Jvm.Cond) (a1 : Addr) (b : Addr) (u : Addr) (ku : ClassId) (mn : Nat) (zl : Nat) (vs : List Value) (zc : Int32) (h0 : Heap) (n0 : Nat) (Z0 : n0 ≤ h0.size) (O0 : Ext Z.heap h0) (hn0 : Z.heap.size ≤ n0) (S_CS : Sta Z Z.heap "java/lang/String" "COMPACT_STRINGS" "Z" (.int zc)) (P5 : ¬ zc = (0 : Int32)) (E_b : Exa Z h0 b "java/lang/StringBuilder") (F_value_b : Fld Z h0 b "java/lang/AbstractStringBuilder" "value" "[B" (.ref u)) (F_coder_b : Fld Z h0 b "java/lang/AbstractStringBuilder" "coder" "B" (.int (1 : Int32))) (F_count_b : Fld Z h0 b "java/lang/AbstractStringBuilder" "count" "I" (.int (Int32.ofNat mn))) (F_maybeLatin1_b : Fld Z h0 b "java/lang/AbstractStringBuilder" "maybeLatin1" "Z" (.int (0 : Int32))) (V_u : Arv Z h0 u ku .byte (Int32.ofNat zl) vs (.int (0 : Int32))) (hzl : zl = vs.length) (hm : (2 * mn) < zl) (hm2 : (2 * mn) ≤ 42) (hz2 : zl < 1000) (E_a1 : Exa Z h0 a1 "java/lang/String") (F_value_a1 : Fld Z h0 a1 "java/lang/String" "value" "[B" .null) (F_coder_a1 : Fld Z h0 a1 "java/lang/String" "coder" "B" (.int (0 : Int32))) (g_a1 : n0 ≤ a1) (ne_b_a1 : b ≠ a1) (ne_u_a1 : u ≠ a1) :
    MF l y15_ jdk_42_method_150_code 5 none ws (rM 3 1 42 49) #[(.ref a1), (.ref b), .null] Z h0 (Q_rm_siA1 Z a1 b u ku mn zl vs zc h0 n0) := by
  refine own_bodyF n0 (plainFor_of_name pnj_43) (fun m => efj_rm_siA1 m a1 b) ?_
  intro p e s m below meth c s₁ S0 hx hby hml hZ hown hnm hret hlk X0 e0 hh N0 hK go0
  have K0 : Keep h0 h0 [a1] := Keep.refl h0 [a1]
  have go1 : Go p e below s₁ (mkF m 1 #[.val (.ref a1), .val (.ref b), .val .null, .unset, .unset] [(.ref a1)]) S0 := by
    intro tt kt
    refine go0 tt ?_
    refine XS.aloadN X0.here hx rfl (hb hby d43_0) rfl rfl ?_
    exact kt
  obtain ⟨T2, X2, e2, st2⟩ := initO X0 hx hZ hown (wi hw 12 rfl) (wi hw 13 rfl) (wi hw 14 rfl) e0 (g := (mkF m 1 #[.val (.ref a1), .val (.ref b), .val .null, .unset, .unset] [(.ref a1)])) rfl (by rw [hml]; rfl) rfl (hb hby d43_1) (by decide) (W := 0) (by show 2 * 0 + _ ≤ _; exact Nat.le_of_eq rfl) (by decide)
  have go3 : Go p e below T2 (mkF m 4 #[.val (.ref a1), .val (.ref b), .val .null, .unset, .unset] []) S0 := fun t kt => go1 t (st2 _ kt)
  have go4 : Go p e below T2 (mkF m 5 #[.val (.ref a1), .val (.ref b), .val .null, .unset, .unset] [(.ref b)]) S0 := by
    intro tt kt
    refine go3 tt ?_
    refine XS.aloadN X2.here hx rfl (hb hby d43_4) rfl rfl ?_
    exact kt
  obtain ⟨cq5, kq5, q5a, q5b, q5c⟩ := isOf hZ e2 E_b
  obtain ⟨_, _, ⟨T5, L5, k5, n5⟩, -, X5, ⟨Lc5, hQ5, l5, y5, z5⟩, st5⟩ := X2.virtualBack hx (y := y13_) (z := y13_) hown (mvT hZ (wi hw 165 rfl)) (mvT hZ (wi hw 166 rfl)) (notFace_of_selects (args := #[]) (mvT hZ (wi hw 168 rfl))) (mvT hZ (wi hw 168 rfl)) (mvT hZ (wi hw 167 rfl)) (by decide) (backOf (W := 0) (rm_gv l Z a0 hw [] b u h0 n0 Z0 F_value_b) hZ (wi hw 169 rfl) (wi hw 74 rfl) (by decide) (by decide)) q5a q5c (g := (mkF m 5 #[.val (.ref a1), .val (.ref b), .val .null, .unset, .unset] [(.ref b)])) rfl (by rw [hml]; rfl) (Steps.refl _) (argsL := []) (rest := []) (lenOf pd31_ rfl) rfl (by show 2 * 0 + _ ≤ _; exact Nat.le_of_eq rfl) (hb hby d43_5) (fun _ _ => ⟨rfl, e2, (by decide : 0 + 0 ≤ _), (by decide : 0 + 0 ≤ _)⟩)
  dsimp only [Pt.U, Pt.locs, Pt.cells, Pt.slots] at X5 l5 y5 z5 st5 hQ5
  subst l5 y5 z5
  obtain ⟨rfl, N5q, g5⟩ := hQ5
  have K0 := own_ks g5 K0
  rw [← g5] at E_b F_value_b F_coder_b F_count_b F_maybeLatin1_b V_u E_a1 F_value_a1 F_coder_a1 Z0
  have N5 := Fr.app N0 N5q
  have go6 : Go p e below T5 (mkF m 8 #[.val (.ref a1), .val (.ref b), .val .null, .unset, .unset] [(.ref u)]) S0 := fun t kt => go4 t (st5.trans kt)
  have go7 : Go p e below T5 (mkF m 10 #[.val (.ref a1), .val (.ref b), .val .null, .val (.ref u), .unset] [(.ref b)]) S0 := by
    intro tt kt
    refine go6 tt ?_
    refine XS.astoreN X5.here hx rfl (hb hby d43_8) rfl rfl (l' := #[.val (.ref a1), .val (.ref b), .val .null, .val (.ref u), .unset]) rfl ?_
    refine XS.aloadN X5.here hx rfl (hb hby d43_9) rfl rfl ?_
    exact kt
  obtain ⟨cq8, kq8, q8a, q8b, q8c⟩ := isOf hZ rfl E_b
  obtain ⟨_, _, ⟨T8, L8, k8, n8⟩, -, X8, ⟨Lc8, hQ8, l8, y8, z8⟩, st8⟩ := X5.virtualBack hx (y := y14_) (z := y29_) hown (mvT hZ (wi hw 170 rfl)) (mvT hZ (wi hw 171 rfl)) (own_nf (args := #[]) (mvT hZ (wi hw 168 rfl)) rfl) (mvT hZ (wi hw 173 rfl)) (mvT hZ (wi hw 174 rfl)) (by decide) (backOf (W := 0) (rm_sbl l Z a0 hw [] b (Int32.ofNat mn) T5.heap n0 Z0 E_b F_count_b) hZ (wi hw 175 rfl) (wi hw 66 rfl) (by decide) (by decide)) q8a q8c (g := (mkF m 10 #[.val (.ref a1), .val (.ref b), .val .null, .val (.ref u), .unset] [(.ref b)])) rfl (by rw [hml]; rfl) (Steps.refl _) (argsL := []) (rest := []) (lenOf pd37_ rfl) rfl (by show 2 * 0 + _ ≤ _; exact Nat.le_of_eq rfl) (hb hby d43_10) (fun _ _ => ⟨rfl, rfl, (by decide : 0 + 0 ≤ _), (by decide : 0 + 0 ≤ _)⟩)
  dsimp only [Pt.U, Pt.locs, Pt.cells, Pt.slots] at X8 l8 y8 z8 st8 hQ8
  subst l8 y8 z8
  obtain ⟨rfl, N8q, g8⟩ := hQ8
  have K0 := own_ks g8 K0
  rw [← g8] at E_b F_value_b F_coder_b F_count_b F_maybeLatin1_b V_u E_a1 F_value_a1 F_coder_a1 Z0
  have N8 := Fr.app N5 N8q
  have go9 : Go p e below T8 (mkF m 13 #[.val (.ref a1), .val (.ref b), .val .null, .val (.ref u), .unset] [(.int (Int32.ofNat mn))]) S0 := fun t kt => go7 t (st8.trans kt)
  have go10 : Go p e below T8 (mkF m 16 #[.val (.ref a1), .val (.ref b), .val .null, .val (.ref u), .val (.int (Int32.ofNat mn))] [(.ref b)]) S0 := by
    intro tt kt
    refine go9 tt ?_
    refine XS.istore X8.here hx rfl (hb hby d43_13) rfl (l' := #[.val (.ref a1), .val (.ref b), .val .null, .val (.ref u), .val (.int (Int32.ofNat mn))]) rfl ?_
    refine XS.aloadN X8.here hx rfl (hb hby d43_15) rfl rfl ?_
    exact kt
  obtain ⟨cq11, kq11, q11a, q11b, q11c⟩ := isOf hZ rfl E_b
  obtain ⟨_, _, ⟨T11, L11, k11, n11⟩, -, X11, ⟨Lc11, hQ11, l11, y11, z11⟩, st11⟩ := X8.virtualBack hx (y := y2_) (z := y2_) hown (mvT hZ (wi hw 178 rfl)) (mvT hZ (wi hw 179 rfl)) (notFace_of_selects (args := #[]) (mvT hZ (wi hw 181 rfl))) (mvT hZ (wi hw 181 rfl)) (mvT hZ (wi hw 180 rfl)) (by decide) (backOf (W := 0) (rm_isl1 l Z a0 hw [] b zc T8.heap n0 Z0 (oO O0 K0 hn0 (allS g_a1 all0)) hn0 S_CS P5 F_coder_b) hZ (wi hw 182 rfl) (wi hw 74 rfl) (by decide) (by decide)) q11a q11c (g := (mkF m 16 #[.val (.ref a1), .val (.ref b), .val .null, .val (.ref u), .val (.int (Int32.ofNat mn))] [(.ref b)])) rfl (by rw [hml]; rfl) (Steps.refl _) (argsL := []) (rest := []) (lenOf pd35_ rfl) rfl (by show 2 * 0 + _ ≤ _; exact Nat.le_of_eq rfl) (hb hby d43_16) (fun _ _ => ⟨rfl, rfl, (by decide : 0 + 0 ≤ _), (by decide : 0 + 0 ≤ _)⟩)
  dsimp only [Pt.U, Pt.locs, Pt.cells, Pt.slots] at X11 l11 y11 z11 st11 hQ11
  subst l11 y11 z11
  obtain ⟨rfl, N11q, g11⟩ := hQ11
  have K0 := own_ks g11 K0
  rw [← g11] at E_b F_value_b F_coder_b F_count_b F_maybeLatin1_b V_u E_a1 F_value_a1 F_coder_a1 Z0
  have N11 := Fr.app N8 N11q
  have go12 : Go p e below T11 (mkF m 19 #[.val (.ref a1), .val (.ref b), .val .null, .val (.ref u), .val (.int (Int32.ofNat mn))] [(.int (0 : Int32))]) S0 := fun t kt => go10 t (st11.trans kt)
  have go13 : Go p e below T11 (mkF m 41 #[.val (.ref a1), .val (.ref b), .val .null, .val (.ref u), .val (.int (Int32.ofNat mn))] []) S0 := by
    intro tt kt
    refine go12 tt ?_
    refine XS.ifYes X11.here hx rfl (pc0 := 19) (pc' := 41) rfl (hb hby d43_19) rfl ((if0 _ _).trans (teq (rfl : (0 : Int32) = (0 : Int32))).1) (by decide) (by decide) ?_
    exact kt
  have S_N := S_CS.ext (oO O0 K0 hn0 (allS g_a1 all0))
  obtain ⟨T14, X14, e14, st14⟩ := getS2 X11 hx hZ hown (host := "") (Or.inl (wi hw 34 rfl)) Via.refl rfl S_N (g := (mkF m 41 #[.val (.ref a1), .val (.ref b), .val .null, .val (.ref u), .val (.int (Int32.ofNat mn))] [])) rfl (hb hby d43_41)
  have go15 : Go p e below T14 (mkF m 44 #[.val (.ref a1), .val (.ref b), .val .null, .val (.ref u), .val (.int (Int32.ofNat mn))] [(.int zc)]) S0 := fun t kt => go13 t (st14 _ kt)
  have go16 : Go p e below T14 (mkF m 48 #[.val (.ref a1), .val (.ref b), .val .null, .val (.ref u), .val (.int (Int32.ofNat mn))] [(.ref b)]) S0 := by
    intro tt kt
    refine go15 tt ?_
    refine XS.ifNo X14.here hx rfl (hb hby d43_44) rfl ((if0 _ _).trans (feq P5).1) ?_
    refine XS.aloadN X14.here hx rfl (hb hby d43_47) rfl rfl ?_
    exact kt
  obtain ⟨T17, X17, e17, st17⟩ := getF X14 hx hZ hown (host := "") (Or.inl (wi hw 321 rfl)) Via.refl e14 F_maybeLatin1_b (g := (mkF m 48 #[.val (.ref a1), .val (.ref b), .val .null, .val (.ref u), .val (.int (Int32.ofNat mn))] [(.ref b)])) rfl rfl (hb hby d43_48)
  have go18 : Go p e below T17 (mkF m 51 #[.val (.ref a1), .val (.ref b), .val .null, .val (.ref u), .val (.int (Int32.ofNat mn))] [(.int (0 : Int32))]) S0 := fun t kt => go16 t (st17 _ kt)
  have go19 : Go p e below T17 (mkF m 81 #[.val (.ref a1), .val (.ref b), .val .null, .val (.ref u), .val (.int (Int32.ofNat mn))] [(.int (1 : Int32)), (.ref a1)]) S0 := by
    intro tt kt
    refine go18 tt ?_
    refine XS.ifYes X17.here hx rfl (pc0 := 51) (pc' := 79) rfl (hb hby d43_51) rfl ((if0 _ _).trans (teq (rfl : (0 : Int32) = (0 : Int32))).1) (by decide) (by decide) ?_
    refine XS.aloadN X17.here hx rfl (hb hby d43_79) rfl rfl ?_
    refine XS.iconst X17.here hx rfl (hb hby d43_80) ?_
    exact kt
  obtain ⟨T20, h20, X20, e20, W20, st20⟩ := putFN X17 hx hZ hown (wi hw 22 rfl) Via.refl e17 F_coder_a1 E_a1 (Or.inr ⟨(wi hw 18 rfl), rfl, hnm⟩) (wi hw 3 rfl) (ty := .byte) (v' := (.int (1 : Int32))) (by decide) rfl rfl (g := (mkF m 81 #[.val (.ref a1), .val (.ref b), .val .null, .val (.ref u), .val (.int (Int32.ofNat mn))] [(.int (1 : Int32)), (.ref a1)])) rfl rfl (hb hby d43_81)
  have E_b := E_b.wr W20
  have F_value_b := F_value_b.other W20 (Or.inl ne_b_a1)
  have F_coder_b := F_coder_b.other W20 (Or.inl ne_b_a1)
  have F_count_b := F_count_b.other W20 (Or.inl ne_b_a1)
  have F_maybeLatin1_b := F_maybeLatin1_b.other W20 (Or.inl ne_b_a1)
  have V_u := V_u.other W20 ne_u_a1
  have E_a1 := E_a1.wr W20
  have F_value_a1 := F_value_a1.other W20 (Or.inr (slot_ne (Or.inr (wi hw 17 rfl)) (Or.inr (wi hw 18 rfl)) (by decide) (t := (.array .byte)) (t' := .byte) (by decide) (by decide)))
  have F_coder_a1 := F_coder_a1.same W20
  have Z0 := Nat.le_trans Z0 (Keep.of_wr W20).1
  have K0 := K0.wr W20 (Or.inl (List.mem_of_getElem? (i := 0) rfl))
  have N20r := Fr.snoc X20 N11 g_a1
  have go21 : Go p e below T20 (mkF m 84 #[.val (.ref a1), .val (.ref b), .val .null, .val (.ref u), .val (.int (Int32.ofNat mn))] []) S0 := fun t kt => go19 t (st20 _ kt)
  have go22 : Go p e below T20 (mkF m 91 #[.val (.ref a1), .val (.ref b), .val .null, .val (.ref u), .val (.int (Int32.ofNat mn))] [(.int ((Int32.ofNat mn) <<< ((1 : Int32) &&& 31))), (.int (0 : Int32)), (.ref u), (.ref a1)]) S0 := by
    intro tt kt
    refine go21 tt ?_
    refine XS.aloadN X20.here hx rfl (hb hby d43_84) rfl rfl ?_
    refine XS.aloadN X20.here hx rfl (hb hby d43_85) rfl rfl ?_
    refine XS.iconst X20.here hx rfl (hb hby d43_86) ?_
    refine XS.iload X20.here hx rfl (hb hby d43_87) rfl ?_
    refine XS.iconst X20.here hx rfl (hb hby d43_89) ?_
    refine XS.ishl X20.here hx rfl (hb hby d43_90) rfl ?_
    exact kt
  have cv23 : ((Int32.ofNat mn) <<< ((1 : Int32) &&& 31)) = (Int32.ofNat (2 * mn)) := (own_shl (by omega))
  have go23 : Go p e below T20 (mkF m 91 #[.val (.ref a1), .val (.ref b), .val .null, .val (.ref u), .val (.int (Int32.ofNat mn))] [(.int (Int32.ofNat (2 * mn))), (.int (0 : Int32)), (.ref u), (.ref a1)]) S0 := by have q := go22; rw [cv23] at q; exact q
  obtain ⟨_, _, ⟨T24, L24, k24, n24⟩, -, X24, ⟨Lc24, hQ24, l24, y24, z24⟩, st24⟩ := Jvm.LawKit.callS X20 hx (y := y28_) hown (mvT hZ (wi hw 183 rfl)) (mvT hZ (wi hw 184 rfl)) (mvT hZ (wi hw 127 rfl)) (mvT hZ (wi hw 185 rfl)) (by decide) (backOf (W := 1) (rm_cr l Z a0 hw [] u (2 * mn) ku zl vs h20 n0 Z0 V_u hzl hm hm2 hz2) hZ (wi hw 185 rfl) (wi hw 127 rfl) (by decide) (by decide)) (g := (mkF m 91 #[.val (.ref a1), .val (.ref b), .val .null, .val (.ref u), .val (.int (Int32.ofNat mn))] [(.int (Int32.ofNat (2 * mn))), (.int (0 : Int32)), (.ref u), (.ref a1)])) rfl (by rw [hml]; rfl) (argsL := [(.ref u), (.int (0 : Int32)), (.int (Int32.ofNat (2 * mn)))]) (rest := [(.ref a1)]) (lenOf pd16_ rfl) rfl (by show 2 * 0 + _ ≤ _; exact Nat.le_of_eq rfl) (hb hby d43_91) (fun _ _ => ⟨rfl, e20, (by decide : 0 + 1 ≤ _), (by decide : 0 + 42 ≤ _)⟩)
  dsimp only [Pt.U, Pt.locs, Pt.cells, Pt.slots] at X24 l24 y24 z24 st24 hQ24
  subst l24 y24 z24
  obtain ⟨r, kr, rfl, N24q, E24, V_r, sz_r⟩ := hQ24
  have ne_r_a1 : r ≠ a1 := oL E_a1.lt sz_r
  have sz_r := Nat.le_trans K0.1 sz_r
  have E_a1 := E_a1.ext E24
  have F_value_a1 := F_value_a1.ext E24
  have F_coder_a1 := F_coder_a1.ext E24
  have Z0 := Nat.le_trans Z0 E24.1
  have K0 := K0.ext E24
  have N24 := Fr.app N20r N24q
  have go25 : Go p e below T24 (mkF m 94 #[.val (.ref a1), .val (.ref b), .val .null, .val (.ref u), .val (.int (Int32.ofNat mn))] [(.ref r), (.ref a1)]) S0 := fun t kt => go23 t (st24 _ kt)
  obtain ⟨T26, h26, X26, e26, W26, st26⟩ := putF X24 hx hZ hown (host := "") (Or.inl (wi hw 21 rfl)) Via.refl rfl F_value_a1 E_a1 (Or.inr ⟨(wi hw 17 rfl), rfl, hnm⟩) (wi hw 3 rfl) (ty := (.array .byte)) (by decide) rfl rfl (g := (mkF m 94 #[.val (.ref a1), .val (.ref b), .val .null, .val (.ref u), .val (.int (Int32.ofNat mn))] [(.ref r), (.ref a1)])) rfl rfl (hb hby d43_94)
  have E_a1 := E_a1.wr W26
  have F_coder_a1 := F_coder_a1.other W26 (Or.inr (slot_ne (Or.inr (wi hw 18 rfl)) (Or.inr (wi hw 17 rfl)) (by decide) (t := .byte) (t' := (.array .byte)) (by decide) (by decide)))
  have V_r := V_r.other W26 ne_r_a1
  have F_value_a1 := F_value_a1.same W26
  have Z0 := Nat.le_trans Z0 (Keep.of_wr W26).1
  have K0 := K0.wr W26 (Or.inl (List.mem_of_getElem? (i := 0) rfl))
  have N26r := Fr.snoc X26 N24 g_a1
  have go27 : Go p e below T26 (mkF m 97 #[.val (.ref a1), .val (.ref b), .val .null, .val (.ref u), .val (.int (Int32.ofNat mn))] []) S0 := fun t kt => go25 t (st26 _ kt)
  have hlen : (vs.take (2 * mn)).length = (2 * mn) := by rw [List.length_take]; omega
  exact own_leaveV X26 hx hret hlk (hb hby d43_97) go27 e26 (⟨rfl, N26r, K0, r, kr, sz_r, E_a1, F_coder_a1, F_value_a1, by rw [hlen]; exact V_r⟩) (by decide) (by decide)
theorem efj_rm_siB1 (m : MethodId) (a1 : Addr) (b : Addr) : entryFrame m #[(.ref a1), (.ref b)] 2 = mkF m 0 #[.val (.ref a1), .val (.ref b)] [] := by first | (simp [entryFrame, mkF, argsToLocals, Value.category]; done) | rfl
def Q_rm_siB1 (Z : State) (a1 : Addr) (b : Addr) (u : Addr) (ku : ClassId) (mn : Nat) (zl : Nat) (vs : List Value) (zc : Int32) (h0 : Heap) (n0 : Nat) (v : Option Value) (h : Heap) (L : List Loc) : Prop := v = none ∧ Fr n0 L ∧ Keep h0 h [a1] ∧ Bn Z h h0.size a1 (1 : Int32) (vs.take (2 * mn))
theorem rm_siB1 (l : Launch) (Z : State) (a0 : Array Value) (hw : Hw a0 Z) (ws : List Jvm.Cond) (a1 : Addr) (b : Addr) (u : Addr) (ku : ClassId) (mn : Nat) (zl : Nat) (vs : List Value) (zc : Int32) (h0 : Heap) (n0 : Nat) (Z0 : n0 ≤ h0.size) (O0 : Ext Z.heap h0) (hn0 : Z.heap.size ≤ n0) (S_CS : Sta Z Z.heap "java/lang/String" "COMPACT_STRINGS" "Z" (.int zc)) (P5 : ¬ zc = (0 : Int32)) (E_b : Exa Z h0 b "java/lang/StringBuilder") (F_value_b : Fld Z h0 b "java/lang/AbstractStringBuilder" "value" "[B" (.ref u)) (F_coder_b : Fld Z h0 b "java/lang/AbstractStringBuilder" "coder" "B" (.int (1 : Int32))) (F_count_b : Fld Z h0 b "java/lang/AbstractStringBuilder" "count" "I" (.int (Int32.ofNat mn))) (F_maybeLatin1_b : Fld Z h0 b "java/lang/AbstractStringBuilder" "maybeLatin1" "Z" (.int (0 : Int32))) (V_u : Arv Z h0 u ku .byte (Int32.ofNat zl) vs (.int (0 : Int32))) (hzl : zl = vs.length) (hm : (2 * mn) < zl) (hm2 : (2 * mn) ≤ 42) (hz2 : zl < 1000) (E_a1 : Exa Z h0 a1 "java/lang/String") (F_value_a1 : Fld Z h0 a1 "java/lang/String" "value" "[B" .null) (F_coder_a1 : Fld Z h0 a1 "java/lang/String" "coder" "B" (.int (0 : Int32))) (g_a1 : n0 ≤ a1) (ne_b_a1 : b ≠ a1) (ne_u_a1 : u ≠ a1) :
    MF l y19_ jdk_42_method_53_code 2 none ws (rM 4 1 42 65) #[(.ref a1), (.ref b)] Z h0 (Q_rm_siB1 Z a1 b u ku mn zl vs zc h0 n0) := by
  refine own_bodyF n0 (plainFor_of_name pnj_44) (fun m => efj_rm_siB1 m a1 b) ?_
  intro p e s m below meth c s₁ S0 hx hby hml hZ hown hnm hret hlk X0 e0 hh N0 hK go0
  have go1 : Go p e below s₁ (mkF m 3 #[.val (.ref a1), .val (.ref b)] [.null, (.ref b), (.ref a1)]) S0 := by
    intro tt kt
    refine go0 tt ?_
    refine XS.aloadN X0.here hx rfl (hb hby d44_0) rfl rfl ?_
    refine XS.aloadN X0.here hx rfl (hb hby d44_1) rfl rfl ?_
    refine XS.aconstNull X0.here hx rfl (hb hby d44_2) ?_
    exact kt
  obtain ⟨_, _, ⟨T2, L2, k2, n2⟩, -, X2, ⟨Lc2, hQ2, l2, y2, z2⟩, st2⟩ := X0.specialBack hx (y := y15_) rfl hown (mvT hZ (wi hw 162 rfl)) (mvT hZ (wi hw 163 rfl)) (mvT hZ (wi hw 164 rfl)) (by decide) (backOf (W := 0) (rm_siA1 l Z a0 hw [] a1 b u ku mn zl vs zc h0 n0 Z0 O0 hn0 S_CS P5 E_b F_value_b F_coder_b F_count_b F_maybeLatin1_b V_u hzl hm hm2 hz2 E_a1 F_value_a1 F_coder_a1 g_a1 ne_b_a1 ne_u_a1) hZ (wi hw 164 rfl) (wi hw 4 rfl) (by decide) (by decide)) (g := (mkF m 3 #[.val (.ref a1), .val (.ref b)] [.null, (.ref b), (.ref a1)])) rfl (by rw [hml]; rfl) (Steps.refl _) (a := a1) (argsL := [(.ref b), .null]) (rest := []) (lenOf pd2_ rfl) rfl (by show 2 * 0 + _ ≤ _; exact Nat.le_of_eq rfl) (hb hby d44_3) (fun _ _ => ⟨rfl, e0, (by decide : 0 + 1 ≤ _), (by decide : 0 + 42 ≤ _)⟩)
  dsimp only [Pt.U, Pt.locs, Pt.cells, Pt.slots] at X2 l2 y2 z2 st2 hQ2
  subst l2 y2 z2
  obtain ⟨rfl, N2q, R2⟩ := hQ2
  have N2 := Fr.app N0 N2q
  have go3 : Go p e below T2 (mkF m 6 #[.val (.ref a1), .val (.ref b)] []) S0 := fun t kt => go1 t (st2.trans kt)
  exact own_leaveV X2 hx hret hlk (hb hby d44_6) go3 rfl (⟨rfl, N2, R2⟩) (by decide) (by decide)
theorem efj_rm_ts1 (m : MethodId) (b : Addr) : entryFrame m #[(.ref b)] 1 = mkF m 0 #[.val (.ref b)] [] := by first | (simp [entryFrame, mkF, argsToLocals, Value.category]; done) | rfl
def Q_rm_ts1 (Z : State) (b : Addr) (u : Addr) (ku : ClassId) (mn : Nat) (zl : Nat) (vs : List Value) (zc : Int32) (h0 : Heap) (n0 : Nat) (v : Option Value) (h : Heap) (L : List Loc) : Prop := ∃ (s_ : Addr), v = some (.ref s_) ∧ Fr n0 L ∧ Ext h0 h ∧ h0.size ≤ s_ ∧ Bn Z h h0.size s_ (1 : Int32) (vs.take (2 * mn))
theorem rm_ts1 (l : Launch) (Z : State) (a0 : Array Value) (hw : Hw a0 Z) (ws : List Jvm.Cond) (b : Addr) (u : Addr) (ku : ClassId) (mn : Nat) (zl : Nat) (vs : List Value) (zc : Int32) (h0 : Heap) (n0 : Nat) (Z0 : n0 ≤ h0.size) (O0 : Ext Z.heap h0) (hn0 : Z.heap.size ≤ n0) (S_CS : Sta Z Z.heap "java/lang/String" "COMPACT_STRINGS" "Z" (.int zc)) (P5 : ¬ zc = (0 : Int32)) (E_b : Exa Z h0 b "java/lang/StringBuilder") (F_value_b : Fld Z h0 b "java/lang/AbstractStringBuilder" "value" "[B" (.ref u)) (F_coder_b : Fld Z h0 b "java/lang/AbstractStringBuilder" "coder" "B" (.int (1 : Int32))) (F_count_b : Fld Z h0 b "java/lang/AbstractStringBuilder" "count" "I" (.int (Int32.ofNat mn))) (F_maybeLatin1_b : Fld Z h0 b "java/lang/AbstractStringBuilder" "maybeLatin1" "Z" (.int (0 : Int32))) (V_u : Arv Z h0 u ku .byte (Int32.ofNat zl) vs (.int (0 : Int32))) (hzl : zl = vs.length) (hm : (2 * mn) < zl) (hm2 : (2 * mn) ≤ 42) (hz2 : zl < 1000) :
    MF l y5_ jdk_67_method_42_code 1 (some (.object "java/lang/String")) ws (rM 5 2 46 79) #[(.ref b)] Z h0 (Q_rm_ts1 Z b u ku mn zl vs zc h0 n0) := by
  refine own_bodyF n0 (plainFor_of_name pnj_45) (fun m => efj_rm_ts1 m b) ?_
  intro p e s m below meth c s₁ S0 hx hby hml hZ hown hnm hret hlk X0 e0 hh N0 hK go0
  have K0 : Keep h0 h0 [] := Keep.refl h0 []
  have lt_b := E_b.lt
  have lt_u := V_u.lt
  obtain ⟨T1, h1, X1, e1, E1, A1, D1, -, st1⟩ := newO X0 hx hZ hown (wi hw 158 rfl) (wi hw 3 rfl) (wi hw 4 rfl) e0 (g := (mkF m 0 #[.val (.ref b)] [])) rfl (hb hby d45_0) (by decide) (by decide)
  obtain ⟨s_, g1⟩ : ∃ z, z = h0.size := ⟨_, rfl⟩
  rw [← g1] at A1 D1 st1
  have g_s_ : n0 ≤ s_ := Nat.le_trans Z0 (Nat.le_of_eq g1.symm)
  have sz_s_ : h0.size ≤ s_ := Nat.le_trans K0.1 (Nat.le_of_eq g1.symm)
  have E_b := E_b.ext E1
  have F_value_b := F_value_b.ext E1
  have F_coder_b := F_coder_b.ext E1
  have F_count_b := F_count_b.ext E1
  have F_maybeLatin1_b := F_maybeLatin1_b.ext E1
  have V_u := V_u.ext E1
  have Z0 := Nat.le_trans Z0 E1.1
  have K0 := K0.ext E1
  have go2 : Go p e below T1 (mkF m 3 #[.val (.ref b)] [(.ref s_)]) S0 := fun t kt => go0 t (st1 _ kt)
  have E_s_ := A1
  have F_value_s_ : Fld Z h1 s_ "java/lang/String" "value" "[B" .null := D1 (Or.inr (wi hw 17 rfl)) (ty := (.array .byte)) (by decide)
  have F_coder_s_ : Fld Z h1 s_ "java/lang/String" "coder" "B" (.int (0 : Int32)) := D1 (Or.inr (wi hw 18 rfl)) (ty := .byte) (by decide)
  have ne_b_s : b ≠ s_ := oR lt_b sz_s_
  have ne_u_s : u ≠ s_ := oR lt_u sz_s_
  have go3 : Go p e below T1 (mkF m 5 #[.val (.ref b)] [(.ref b), (.ref s_), (.ref s_)]) S0 := by
    intro tt kt
    refine go2 tt ?_
    refine XS.dup X1.here hx rfl (hb hby d45_3) rfl rfl ?_
    refine XS.aloadN X1.here hx rfl (hb hby d45_4) rfl rfl ?_
    exact kt
  obtain ⟨_, _, ⟨T4, L4, k4, n4⟩, -, X4, ⟨Lc4, hQ4, l4, y4, z4⟩, st4⟩ := X1.specialBack hx (y := y19_) rfl hown (mvT hZ (wi hw 159 rfl)) (mvT hZ (wi hw 160 rfl)) (mvT hZ (wi hw 161 rfl)) (by decide) (backOf (W := 1) (rm_siB1 l Z a0 hw [] s_ b u ku mn zl vs zc h1 n0 Z0 (oO O0 K0 hn0 all0) hn0 S_CS P5 E_b F_value_b F_coder_b F_count_b F_maybeLatin1_b V_u hzl hm hm2 hz2 E_s_ F_value_s_ F_coder_s_ g_s_ ne_b_s ne_u_s) hZ (wi hw 161 rfl) (wi hw 4 rfl) (by decide) (by decide)) (g := (mkF m 5 #[.val (.ref b)] [(.ref b), (.ref s_), (.ref s_)])) rfl (by rw [hml]; rfl) (Steps.refl _) (a := s_) (argsL := [(.ref b)]) (rest := [(.ref s_)]) (lenOf pd7_ rfl) rfl (by show 2 * 0 + _ ≤ _; exact Nat.le_of_eq rfl) (hb hby d45_5) (fun _ _ => ⟨rfl, e1, (by decide : 1 + 1 ≤ _), (by decide : 4 + 42 ≤ _)⟩)
  dsimp only [Pt.U, Pt.locs, Pt.cells, Pt.slots] at X4 l4 y4 z4 st4 hQ4
  subst l4 y4 z4
  obtain ⟨rfl, N4q, K4, B4⟩ := hQ4
  have B4 := B4.mono K0.1
  have K0 := K0.trans K4 (allS (Or.inr sz_s_) all0)
  have N4 := Fr.app N0 N4q
  have go5 : Go p e below T4 (mkF m 8 #[.val (.ref b)] [(.ref s_)]) S0 := fun t kt => go3 t (st4.trans kt)
  exact own_leaveO X4 hx hret hlk (hb hby d45_8) go5 rfl (⟨s_, rfl, N4, oE K0, sz_s_, B4⟩) (by decide) (by decide)
def own_EL : List (String × Nat) := [("com/example/ceresio/ceresio/StateFormat", 40), ("com/example/ceresio/ceresio/StateFormatMalformedPinLaw", 13), ("java/lang/String", 7)]
theorem own_since (s : State) : s.Since s.vm s.heap.size := ⟨State.Warmed39.refl s, fun j p hj hp => absurd (Array.getElem?_eq_some_iff.mp hp).1 (Nat.not_lt.mpr hj)⟩
theorem own_strAtoms : ∀ d ∈ Bundle.stringAtoms, d ∈ tables_1 := by decide +kernel
def Str (Z : State) (h : Heap) (a : Addr) (cs : List Int32) : Prop := ∃ (t : Addr) (kb : ClassId), Exa Z h a "java/lang/String" ∧ Fld Z h a "java/lang/String" "coder" "B" (.int 0) ∧ Fld Z h a "java/lang/String" "value" "[B" (.ref t) ∧ Arv Z h t kb .byte (Int32.ofNat cs.length) ((cs.map (fun c => c.toInt8.toInt32)).map Value.int) (.int 0) ∧ (∀ c ∈ cs, ¬ c < 0 ∧ ¬ (255 : Int32) < c) ∧ cs.length ≤ 4000
theorem own_PBe : ((([(109 : Int32), (97 : Int32), (108 : Int32), (102 : Int32), (111 : Int32), (114 : Int32), (109 : Int32), (101 : Int32), (100 : Int32), (32 : Int32), (115 : Int32), (116 : Int32), (97 : Int32), (116 : Int32), (101 : Int32), (58 : Int32), (32 : Int32)] : List Int32).map (fun c => c.toInt8.toInt32)).map Value.int) = own_PB := by decide +kernel
theorem own_text_pp : (∀ c ∈ "malformed state: ".toList, c.toNat < 256) ∧ "malformed state: ".toList.map (fun c => Value.int (Jvm.Lit.byteI c.toNat.toUInt16)) = ((([(109 : Int32), (97 : Int32), (108 : Int32), (102 : Int32), (111 : Int32), (114 : Int32), (109 : Int32), (101 : Int32), (100 : Int32), (32 : Int32), (115 : Int32), (116 : Int32), (97 : Int32), (116 : Int32), (101 : Int32), (58 : Int32), (32 : Int32)] : List Int32).map (fun c => c.toInt8.toInt32)).map Value.int) := by decide +kernel
theorem own_text_e1 : (∀ c ∈ "".toList, c.toNat < 256) ∧ "".toList.map (fun c => Value.int (Jvm.Lit.byteI c.toNat.toUInt16)) = ((([] : List Int32).map (fun c => c.toInt8.toInt32)).map Value.int) := by decide +kernel
theorem own_backK {p : Program} {l : Launch} {e : Env} {R : Room} {s : State} {args : Array Value} {below : List Frame} {Z : State} {a0 : Array Value} {EL : List (String × Nat)} {h : Heap} {vm0 : Vm} {y : MethodName} {bytes : ByteArray} {maxL : Nat} {ret : Option FieldType} {rm : Room} {len W : Nat} {as' : Array Value} {Q : Option Value → Heap → List Loc → Prop}
    (hM : MetFree l y (head1 [Cond.code y bytes maxL ret] rm) (fun a U => a = as' ∧ Z.Warmed39 U.vm ∧ U.heap = h ∧ CHv Z EL U.vm h) (fun _ _ bl st _ => st.vm.MethodsKnown ∧ st.vm.FramesKnown bl) (fun _ U o U' => ∃ v L, o = .returned v ∧ Q v U'.heap L ∧ CHr Z EL U.vm U.heap U'.vm U'.heap ∧ ReturnedEndW U o U' L rm.cells rm.slots))
    (hZ : Z.Warmed39 vm0) (wc : (Cond.code y bytes maxL ret).before a0 Z = true) (wz : (Cond.initialized y.cls).before a0 Z = true) (hf : rm.frames + 1 ≤ R.frames) (hl : W + (maxL + 11) + rm.locals ≤ R.locals) (hEL : EW Z a0 EL) (H : CHv Z EL vm0 h) (hTK : (s.setVm vm0).vm.MethodsKnown) (hBelow : (s.setVm vm0).vm.FramesKnown below) :
    BackS l R p e below (s.setVm vm0) args y len W (fun A a => a = as' ∧ A.U.heap = h ∧ A.cells + rm.cells ≤ R.cells ∧ A.slots + rm.slots ≤ R.slots)
      (fun A _ v B => ∃ L, Q v B.U.heap L ∧ B.locs = A.locs ++ L ∧ B.cells = A.cells + rm.cells ∧ B.slots = A.slots + rm.slots ∧ CHr Z EL vm0 h B.U.vm B.U.heap) :=
  BackS.of_freeWG (bytes := bytes) (maxL := maxL) (ret := ret) (E := fun _ first o t L k n => k = rm.cells ∧ n = rm.slots ∧ (∃ v, o = .returned v ∧ Q v t.heap L) ∧ CHr Z EL first.vm first.heap t.vm t.heap) hM hf hl
    (fun m meth c A a Y hp => have hU : Z.Warmed39 A.U.vm := wtrans (s := s.setVm vm0) hZ Y.warmed
      ⟨by show (Cond.and _ .tt).before a A.U = true; rw [Cond.before_and, mv hU wc]; rfl, mv hU wc, mv hU wz, hp.2.2.1, hp.2.2.2⟩)
    (fun m meth c A a g mk Y hp => ⟨hp.1, wtrans (s := s.setVm vm0) hZ Y.warmed, hp.2.1, (CHv.at Y hZ hEL H).1⟩)
    (fun m meth c A a g mk Y _ hg => known_frames Y hg hTK hBelow)
    (fun _ _ _ _ ⟨v, L, h1, h2, h3, h4⟩ => ⟨L, _, _, h4, rfl, rfl, ⟨v, h1, h2⟩, h3⟩)
    (fun m meth c A a g mk v t L k n Y hp _ _ ⟨e1, e2, ⟨v', e3, e4⟩, e5⟩ => by
      cases e3; subst e1 e2
      refine ⟨L, e4, rfl, rfl, rfl, (CHv.at Y hZ hEL H).trans ?_⟩
      rw [← hp.2.1]; exact e5)
def own_N : List Int32 := [(110 : Int32), (117 : Int32), (108 : Int32), (108 : Int32)]
theorem own_tkL (ds : List Value) : (own_DL ds).take (17 + ds.length) = own_PB ++ ds := by
  rw [own_DL, show own_L34.take 17 = own_PB by decide +kernel]
  exact List.take_left' (by rw [List.length_append, own_PBl])
theorem own_tkU (ds : List Value) (m : Nat) (h : m = 34 + ds.length) : (own_DU ds).take m = own_PU ++ ds := by
  rw [own_DU, show own_L68.take 34 = own_PU by decide +kernel]
  exact List.take_left' (by rw [List.length_append, own_PUl, h])
theorem own_lenL (ds : List Value) (h : ds.length ≤ 17) : 34 = (own_DL ds).length := by
  rw [own_DL, List.length_append, List.length_append, List.length_take, List.length_drop, own_l34]; omega
theorem own_lenU (ds : List Value) (h : ds.length ≤ 34) : 68 = (own_DU ds).length := by
  rw [own_DU, List.length_append, List.length_append, List.length_take, List.length_drop, own_l68]; omega
section Exc0
open Jvm.Free.Exc LibCode.Throwable
/-- Throwable's words, but with the receiver's class in the places of 'suppressedExceptions' -/
def own_tw (rc : String) : List Cond := [.initialized tN, .superclass tN "java/lang/Object", .instanceMethod tFill, .codeSync tFill Fill.code 1 (some (.object tN)), .instanceMethod tFill0, .native tFill0,
  .instanceMethod tInit0, .code tInit0 Init0.code 1 none, .instanceMethod oInit, .code oInit ⟨#[0xb1]⟩ 1 none, .methodLink tN 1 oInit, .methodLink tN 27 tFill, .methodLink tN 202 tFill0,
  .fieldLink tN 7 tN "cause" thD, .lays rc tN "cause" thD, .fieldLink tN 17 tN "stackTrace" steD, .lays rc tN "stackTrace" steD, .fieldLink tN 24 tN "suppressedExceptions" listD, .lays rc tN "suppressedExceptions" listD,
  .fieldLink tN 13 tN "UNASSIGNED_STACK" steD, .laysStatic tN "UNASSIGNED_STACK" steD, .fieldLink tN 20 tN "SUPPRESSED_SENTINEL" listD, .laysStatic tN "SUPPRESSED_SENTINEL" listD, .lays rc tN "detailMessage" msgD]
theorem own_parm {d : String} {q : List FieldType} {sg : MethodDescriptor} (h1 : parseMethodDescriptor d = some sg) (h2 : (parseMethodDescriptor d).map (·.parameters) = some q) : sg.parameters = q := by
  rw [h1] at h2; simpa using h2
theorem own_T {args : Array Value} {s : State} {pl : Platform} {rc : String} {cX : ClassId} {kX : Class} (howns : pl.frameOwnsMonitors = true) (hfin : pl.finalization = false) (hpl : pl.magicAccessors = ({} : Platform).magicAccessors)
    (hcX : s.vm.findClass rc = some cX) (hkX : s.vm.classes[cX]? = some kX) (a : ∀ d ∈ own_tw rc, d.holds args s none s [] = true) : ∃ (T : ThrowableC) (Z : Init0T), T.Links pl s ∧ Ties T Z s := by
  have w : ∀ (i : Nat) (d : Cond), (own_tw rc)[i]? = some d → d.holds args s none s [] = true := fun i d h => a d (List.mem_of_getElem? h)
  obtain ⟨⟨c, j0⟩, m0, g0, f0, nat0, cod0, lk0, sg0⟩ := Cond.native_spec (w 5 _ rfl)
  have hc : s.vm.findClass tN = some c := findClass_of_methodNamed g0
  obtain ⟨k, hk, hname⟩ := Vm.findClass_spec hc
  obtain ⟨_, k', _, _, hk', _, _, hord, _, hni⟩ := Cond.superclass_spec hc (w 1 _ rfl)
  cases hk.symm.trans hk'
  obtain ⟨jF, mF, gF, fF, atF, stF, abF, -, -⟩ := Cond.ownMethod (x := tFill) hc hk (w 2 _ rfl)
  obtain ⟨mF', cF, fF', coF, byF, loF, reF, lkF, -, sgF⟩ := Cond.codeSync_spec gF (w 3 _ rfl)
  cases fF.symm.trans fF'
  obtain ⟨j0', m0', g0', f0', at0, st0, ab0, nm0, ds0⟩ := Cond.ownMethod (x := tFill0) hc hk (w 4 _ rfl)
  cases g0.symm.trans g0'
  cases f0.symm.trans f0'
  obtain ⟨jZ, mZ, gZ, fZ, atZ, -, -, -, -⟩ := Cond.ownMethod (x := tInit0) hc hk (w 6 _ rfl)
  obtain ⟨mZ', cZ, fZ', coZ, byZ, loZ, -, lkZ, -, -⟩ := Cond.code_spec gZ (w 7 _ rfl)
  cases fZ.symm.trans fZ'
  obtain ⟨o, mO, gO, fO, stO, abO⟩ := Cond.instanceMethod_spec (w 8 _ rfl)
  obtain ⟨mO', cO, fO', coO, byO, loO, -, lkO, -, sgO⟩ := Cond.code_spec gO (w 9 _ rfl)
  cases fO.symm.trans fO'
  obtain ⟨kO, hkO, nameO⟩ := Vm.findClass_spec (findClass_of_methodNamed gO)
  obtain ⟨nmO, dsO⟩ := name_of_methodNamed gO fO
  obtain ⟨q1, n1, cf, l1, r1, hcf, p1⟩ := Cond.linkedMethod hc hk gO (w 10 _ rfl) pl hpl
  obtain ⟨q27, n27, cf2, l27, r27, hcf2, p27⟩ := Cond.linkedMethod hc hk gF (w 11 _ rfl) pl hpl
  cases hcf.symm.trans hcf2
  obtain ⟨q202, n202, cf3, l202, r202, hcf3, p202⟩ := Cond.linkedMethod hc hk g0 (w 12 _ rfl) pl hpl
  cases hcf.symm.trans hcf3
  obtain ⟨q7, i7, fC, l7, r7, a7, s7, n7, nmC, tyC, ffC⟩ := Cond.ownField (t := .object tN) hc hk (by decide +kernel) (w 13 _ rfl) (w 14 _ rfl) pl hpl
  obtain ⟨q17, i17, fS, l17, r17, a17, s17, n17, nmS, tyS, ffS⟩ := Cond.ownField (t := .array (.object "java/lang/StackTraceElement")) hc hk (by decide +kernel) (w 15 _ rfl) (w 16 _ rfl) pl hpl
  obtain ⟨q24, i24, fP, l24, r24, a24, s24, n24, nmP, tyP, ffP⟩ := Cond.ownField (t := .object "java/util/List") hc hk (by decide +kernel) (w 17 _ rfl) (w 18 _ rfl) pl hpl
  obtain ⟨q13, i13, fU, aS, cellS, l13, r13, a13, s13, -, -, sta, cS, iS, -, -, ffU⟩ := Cond.ownStatic (t := .array (.object "java/lang/StackTraceElement")) hc hk (by decide +kernel) (w 19 _ rfl) (w 20 _ rfl) pl hpl
  obtain ⟨q20, i20, fE, _, _, l20, r20, a20, s20, -, -, -, -, -, -, -, ffE⟩ := Cond.ownStatic (t := .object "java/util/List") hc hk (by decide +kernel) (w 21 _ rfl) (w 22 _ rfl) pl hpl
  obtain ⟨_, _, cM, kM, iM, fM, _, _, ffM, sM, nM, _⟩ := Cond.lays_spec (w 23 _ rfl)
  cases hc.symm.trans (Cond.lays_declared (w 23 _ rfl) ffM)
  cases hk.symm.trans (State.fieldFound?_spec ffM).1
  obtain ⟨-, dS, hdS, ndS⟩ := Cond.laysAt hcX hkX ffS (w 16 _ rfl)
  obtain ⟨-, dP, hdP, ndP⟩ := Cond.laysAt hcX hkX ffP (w 18 _ rfl)
  have hap := Cond.laysApart hdS hdP ndS ndP (by rw [nmS, nmP]; decide)
  refine ⟨{ cT := c, kT := k, cO := c, aS := aS, fillIdx := jF, fill0Idx := j0, initSIdx := jZ, obj := o, kObj := kO, methFill := mF, methFill0 := m0, methInitS := mZ, methObj := mO, codeFill := cF, codeInitS := cZ, codeObj := cO, fBack := fC, fDepth := fC, fStack := fS, fCause := fC, fSupp := fP, fMsg := fM, fUnassigned := fU, fSentinel := fE, cfT := cf, ci1 := q1, n1 := n1, ci27 := q27, n27 := n27, ci202 := q202, n202 := n202, ci7 := q7, i7 := i7, ci13 := q13, i13 := i13, ci17 := q17, i17 := i17, ci20 := q20, i20 := i20, ci24 := q24, i24 := i24 }, { idx := jZ, meth := mZ, code := cZ }, ?_, ?_⟩
  · constructor <;> first | assumption | exact Vm.findClass_boot hc hk | exact Cond.initialized_spec hc hk (w 0 _ rfl) | exact own_parm sgF (by decide +kernel) | exact own_parm sg0 (by decide +kernel) | exact congrArg List.length (own_parm sgO (q := []) (by decide +kernel)) | (rw [dsO]; exact lookupSpecial_of_named gO fO stO)
  · constructor <;> first | assumption | exact ⟨_, ffM⟩ | exact (State.fieldFound?_type ffM (t := .object "java/lang/String") (by decide +kernel)).2 | exact ⟨cellS, cS, iS⟩

/-- what else the fill asks -/
def own_fw (rc : String) : List Cond := [.declares tFill, .selects rc tFill0 tFill0, .selects rc tFill tFill, .fieldLink tN 198 tN "backtrace" obD, .lays rc tN "backtrace" obD, .arrayOver (.object "java/lang/Object"), .soleField tN "backtrace", .soleField tN "depth", .lays rc tN "depth" "I"]
theorem own_fldc {Z : State} {h h' : Heap} {a : Addr} {C n d : String} {v : Value} {cell C' : Cell} (F : Fld Z h a C n d v) (hc : h[a]? = some cell) (hc' : h'[a]? = some C') (e1 : C'.cls = cell.cls) (e2 : C'.vm = cell.vm) (e3 : C'.slots.size = cell.slots.size)
    (hs : ∀ c k i f, Z.fieldFound? C n d = some (c, k, i, f) → C'.slots[f.slot]? = cell.slots[f.slot]?) : Fld Z h' a C n d v := by
  obtain ⟨c0, cf, k, i, f, h1, h2, h3, h4, h5, h6, h7⟩ := F
  cases h1.symm.trans hc
  exact ⟨C', cf, k, i, f, hc', h2, by first | exact h3 | (rw [e1]; exact h3) | (rw [e2]; exact h3), by first | exact h4 | (rw [e1]; exact h4) | (rw [e2]; exact h4), by first | exact h5 | (rw [e1]; exact h5) | (rw [e2]; exact h5), by first | exact h6 | (rw [e1]; exact h6) | (rw [e2]; exact h6) | (rw [e3]; exact h6), (hs _ _ _ _ h2).trans h7⟩
theorem own_fill {p : Program} {l : Launch} {e : Env} {R : Room} {s : State} {m : MethodId} {args : Array Value} {below : List Frame} {meth : Method} {c : Code} {T : State} {locs : List Loc} {cells slots : Nat} {Z : State} {a0 : Array Value} {h : Heap}
    (X : Stand p l e R s m args below meth c T locs cells slots) (hx : p.tables.exec = Jvm.exec) (hl : l.stackTraces = true) (hZ : Z.Warmed39 s.vm) (hown : s.vm.findClass tN = some m.cls) {rc : String} {nX : Nat} (w1 : ∀ d ∈ own_tw rc, d.before a0 Z = true) (w2 : ∀ d ∈ own_fw rc, d.before a0 Z = true) (wi : (Cond.instantiable rc nX).before a0 Z = true)
    (hT0 : ThS Z s.heap) (hTK : s.vm.MethodsKnown) (hBelow : s.vm.FramesKnown below) (eT : T.heap = h) {a u : Addr} (E : Exa Z h a rc) (N : Unt h a) (B : Fld Z h a tN "backtrace" obD .null) (S : Fld Z h a tN "stackTrace" steD (.ref u)) (SU : Sta Z h tN "UNASSIGNED_STACK" steD (.ref u))
    {g : JFrame} (hg : g.method = m) (hsize : g.locals.size = c.maxLocals) {rest : List Value} (hs : g.stack = .ref a :: rest) (hd : decode c.code g.pc = .ok (.invokevirtual 27, 3)) (hf : 3 ≤ R.frames) {W : Nat} (hW : 2 * g.monitorRoom + (rest.map fun v => v.category).sum ≤ W) (hlo : W + 42 ≤ R.locals) (hc : cells + 1 ≤ R.cells) (hsl : slots + 2752 ≤ R.slots) :
    ∃ (T' : State) (h' : Heap) (L' : List Loc), Stand p l e R s m args below meth c T' (locs ++ L') (cells + 1) (slots + 2752) ∧ (∀ x ∈ L', x.base = a) ∧ T'.heap = h' ∧ Keep h h' [a] ∧ Unt h' a ∧ (∀ v, Fld Z h a tN "cause" thD v → Fld Z h' a tN "cause" thD v) ∧ (∀ v, Fld Z h a tN "detailMessage" msgD v → Fld Z h' a tN "detailMessage" msgD v) ∧
      ∀ target, Steps p.tables e below (T'.setTop { g with pc := g.pc + 3, stack := .ref a :: rest }) target → Steps p.tables e below (T.setTop g) target := by
  have htr : e.platform.stackTraces = true := by rw [X.admits.platform]; exact hl
  have howns : e.platform.frameOwnsMonitors = true := by rw [X.admits.platform]
  have hfin : e.platform.finalization = false := by rw [X.admits.platform]
  have hpl : e.platform.magicAccessors = ({} : Platform).magicAccessors := by rw [X.admits.platform]
  have A1 : ∀ d ∈ own_tw rc, d.before args s = true := fun d hd => mvX hT0 hZ (List.all_eq_true.mp (show (own_tw rc).all xOk = true from rfl) d hd) (w1 d hd)
  have A2 : ∀ d ∈ own_fw rc, d.before args s = true := fun d hd => mvX hT0 hZ (List.all_eq_true.mp (show (own_fw rc).all xOk = true from rfl) d hd) (w2 d hd)
  have q : ∀ (i : Nat) (d : Cond), (own_fw rc)[i]? = some d → d.before args s = true := fun i d h => A2 d (List.mem_of_getElem? h)
  have q1 : ∀ (i : Nat) (d : Cond), (own_tw rc)[i]? = some d → d.before args s = true := fun i d h => A1 d (List.mem_of_getElem? h)
  obtain ⟨cell, kc, x1, x2, x3, -, x5⟩ := id E
  obtain ⟨c1, y1, y2, y3⟩ := N
  cases x1.symm.trans y1
  obtain ⟨cI, kI, i1, i2, i3, -⟩ := Cond.instantiable_spec wi
  cases x2.symm.trans i1
  cases x3.symm.trans i2
  obtain ⟨kX, hk, ek⟩ := hZ.alike.2.2 _ _ x3
  have hfX : s.vm.findClass rc = some cell.cls := by rw [hZ.alike.findClass]; exact x2
  have hord : kX.kind = .ordinary := by rw [ek]; exact i3
  have hsz : cell.slots.size = kX.instanceTypes.size := by rw [ek]; exact x5 i3
  obtain ⟨Th, Z0, L, Y⟩ := own_T (rc := rc) howns hfin hpl hfX hk (fun d hd => A1 d hd)
  have hmc : m.cls = Th.cT := Option.some.inj (hown.symm.trans Y.found)
  have hsel0 : selectMethod e.platform s.vm cell.cls Th.fill0 = .method Th.fill0 := by
    obtain ⟨c2, r2, m2, z1, z2, z3, z4, -⟩ := Cond.selects_spec (q 1 _ rfl)
    cases Option.some.inj (z1.symm.trans hfX)
    cases Option.some.inj (z2.symm.trans (State.methodFound?_of_named Y.fill0 (by decide)))
    cases Option.some.inj (z3.symm.trans Y.fill0)
    rw [Launch.admits_selectMethod X.admits]; exact z4
  obtain ⟨cu, iu, ku, fu, st, cS, u1, u2, u3, u4, u5, u6, u7⟩ := SU
  obtain ⟨ku', v1, ev⟩ := State.fieldFound?_setVm (s := Z) hZ.alike u1
  cases (show s.fieldFound? tN "UNASSIGNED_STACK" steD = _ from v1).symm.trans Y.unassigned
  have haS : Th.aS = st := by
    have z1 : (Th.kT).statics = some st := by first | (rw [ev]; exact u4) | (rw [← ev]; exact u4)
    exact Option.some.inj (L.statics.symm.trans z1)
  have hiS : cS.vm.isStatics = true := by first | exact u6 | (cases hv : cS.vm <;> simp_all)
  have hneS : Th.aS ≠ a := fun z => by
    rw [haS] at z; subst z
    cases u5.symm.trans x1
    rw [y2] at hiS; cases hiS
  obtain ⟨q198, i198, fB, l198, r198, a198, sB, -, nB, tB, ffB⟩ := Cond.ownField (t := .object "java/lang/Object") Y.found L.cls (by decide +kernel) (q 3 _ rfl) (q 4 _ rfl) e.platform hpl
  obtain ⟨_, _, cD, kD, iD, fD, -, -, ffD, sD, -, -, -, -⟩ := Cond.lays_spec (q 8 _ rfl)
  cases Option.some.inj ((Cond.lays_declared (q 8 _ rfl) ffD).symm.trans Y.found)
  obtain ⟨kD1, aD⟩ := State.fieldFound?_spec ffD
  cases Option.some.inj (kD1.symm.trans L.cls)
  obtain ⟨nD, tD⟩ := State.fieldFound?_type ffD (t := .int) (by decide +kernel)
  have hfb := Cond.soleField_find Y.found L.cls (q 6 _ rfl) a198 nB sB
  have hfd := Cond.soleField_find Y.found L.cls (q 7 _ rfl) aD nD sD
  obtain ⟨comp, cO, kO, -, -, hkO, hkindO, hO⟩ := Cond.arrayOver_spec (q 5 _ rfl)
  obtain ⟨tyS, dS, gS, nS⟩ := Cond.laysAt hfX hk Y.stack (q1 16 _ rfl)
  obtain ⟨tyB, dB, gB, nB'⟩ := Cond.laysAt hfX hk ffB (q 4 _ rfl)
  obtain ⟨tyD, dD, gD, nD'⟩ := Cond.laysAt hfX hk ffD (q 8 _ rfl)
  obtain ⟨-, dC, gC, nC⟩ := Cond.laysAt hfX hk Y.cause (q1 14 _ rfl)
  obtain ⟨iM, ffM⟩ := Y.msg
  obtain ⟨-, dM, gM, nM⟩ := Cond.laysAt hfX hk ffM (q1 23 _ rfl)
  have nmM : Th.fMsg.name = "detailMessage" := (State.fieldFound?_type ffM (t := .object "java/lang/String") (by decide +kernel)).1
  have tk : ∀ {f : Field} {v : Value}, kX.instanceTypes[f.slot]? = some f.type → fits f.type v = true → Jvm.Takes s cell f v := fun {f v} h1 h2 => by
    obtain ⟨z1, z2⟩ := Takes.of_laid (v := v) hk hord h1 h2
    exact ⟨by rw [hsz]; simpa using z1, by rw [y2]; exact z2⟩
  obtain ⟨c5, cf5, k5, i5, f5, s1, s2, -, -, -, -, s7⟩ := S
  cases x1.symm.trans s1
  obtain ⟨k6, v6, -⟩ := State.fieldFound?_setVm (s := Z) hZ.alike s2
  cases (show s.fieldFound? tN "stackTrace" steD = _ from v6).symm.trans Y.stack
  obtain ⟨c8, cf8, k8, i8, f8, b1, b2, -, -, -, -, b7⟩ := B
  cases x1.symm.trans b1
  obtain ⟨k9, v9, -⟩ := State.fieldFound?_setVm (s := Z) hZ.alike b2
  cases (show s.fieldFound? tN "backtrace" obD = _ from v9).symm.trans ffB
  have hSE := q 2 _ rfl
  obtain ⟨v, vm1, ⟨T', L1, k1, n1⟩, -, X', ⟨hv, vm', lines, hlen, -, hU, eL, ec, en⟩, come⟩ := X.virtualBack hx (own := tN) (C := rc) (index := 27) (y := tFill) (z := tFill) hown (q1 11 _ rfl) (q 0 _ rfl) (notFace_of_selects hSE) hSE (q1 2 _ rfl) (by decide)
    (Jvm.Free.Str.fillPays (l := l) (W := W) hx htr Th L Y.fill (u0 := ⟨.ref u, rfl⟩) (by simp) (self := a) (cell := cell) (cellS := cS) (fun _ => by rw [y2]; simp) (by rw [y2]; simp) (by rw [y3]) (by rw [y3]) s7 hsel0 hneS (fun z => by rw [z] at hiS; cases hiS) u7 (tk tyS (by rw [Y.stackType]; rfl))
      ⟨{ ci198 := q198, i198 := i198, fBack := fB }, ⟨l198, r198, a198, sB⟩, b7⟩ hTK hBelow Y.found hO hkO hkindO hfb hfd (fun x => tk tyB (by rw [tB]; rfl)) (fun x => tk tyD (by rw [tD]; rfl)) hf hlo)
    (b := a) (cB := cell.cls) hfX ⟨cell, by rw [eT]; exact x1, rfl, by rw [y2]; rfl⟩ hg hsize (Steps.refl _) (argsL := []) (rest := rest)
    (fun sig h => by rw [show parseMethodDescriptor tFill.desc = some ⟨[], some (.object tN)⟩ from by decide +kernel] at h; rw [← Option.some.inj h]; rfl) hs hW hd
    (fun vmx hWx => ⟨rfl, hc, hsl, by show T.heap[a]? = _; rw [eT]; exact x1, by show T.heap[_]? = _; rw [eT, haS]; exact u5⟩)
  dsimp only [Pt.U, Pt.locs, Pt.cells, Pt.slots] at X' hU eL ec en come
  subst hv eL ec en
  have hH : a < h.size := (Array.getElem?_eq_some_iff.mp x1).1
  generalize hHo : traceHolder cO lines = H at hU
  generalize hCe : Jvm.Free.Str.filledOn Th.toThrowableT fB fD cell ⟨.ref u, rfl⟩ (T.setVm vm1).heap.size lines.length.toInt32 = C' at hU
  have e1 : C'.cls = cell.cls := by rw [← hCe]; rfl
  have e2 : C'.vm = cell.vm := by rw [← hCe]; rfl
  have e3 : C'.monitor = cell.monitor := by rw [← hCe]; rfl
  have e4 : C'.slots.size = cell.slots.size := by rw [← hCe]; simp [Jvm.Free.Str.filledOn, Cell.setSlot]
  have e5 : ∀ i, i ≠ fB.slot → i ≠ fD.slot → i ≠ Th.fStack.slot → C'.slots[i]? = cell.slots[i]? := fun i h1 h2 h3 => by rw [← hCe]; simp [Jvm.Free.Str.filledOn, Cell.setSlot, Array.getElem?_setIfInBounds, Ne.symm h1, Ne.symm h2, Ne.symm h3]
  have hh' : T'.heap = (h.push H).setIfInBounds a C' := by rw [hU, ← eT]; rfl
  have hat : T'.heap[a]? = some C' := by rw [hh', Array.getElem?_setIfInBounds_self_of_lt (by rw [Array.size_push]; exact Nat.lt_succ_of_lt hH)]
  have hoth : ∀ (x : Addr) (c : Cell), h[x]? = some c → x ≠ a → T'.heap[x]? = some c := fun x c hx ne => by
    have hlt := (Array.getElem?_eq_some_iff.mp hx).1
    rw [hh', Array.getElem?_setIfInBounds_ne (Ne.symm ne), Array.getElem?_push_lt hlt]; rw [← hx, Array.getElem?_eq_getElem hlt]
  have ap : ∀ {f : Field} {d : Class × Field}, Jmm.declares? s.vm f.slot (cell.cls + 1) cell.cls = some d → d.2.name = f.name → f.name ≠ "backtrace" → f.name ≠ "depth" → f.name ≠ "stackTrace" → C'.slots[f.slot]? = cell.slots[f.slot]? := fun {f d} h1 h2 h3 h4 h5 =>
    e5 _ (Cond.laysApart h1 gB h2 nB' (by rw [nB]; exact h3)) (Cond.laysApart h1 gD h2 nD' (by rw [nD]; exact h4)) (Cond.laysApart h1 gS h2 nS (by rw [Y.stackName]; exact h5))
  refine ⟨T', _, _, X'.more (Nat.le_refl _) (Nat.add_le_add_left (traceHolder_size_le cO hlen) _), ?_, rfl, ⟨?_, fun x c hx ne => hoth x c hx (by simpa using ne), fun x c hx => ?_⟩, ⟨C', hat, by rw [e2, y2], by rw [e3, y3]⟩, fun v F => ?_, fun v F => ?_, fun target k => come.trans k⟩
  · intro x hx
    simp only [List.mem_cons, List.not_mem_nil, or_false] at hx
    rcases hx with rfl | rfl | rfl <;> rfl
  · rw [hh', Array.size_setIfInBounds, Array.size_push]; exact Nat.le_succ _
  · by_cases hxa : x = a
    · subst hxa; cases x1.symm.trans hx
      exact ⟨C', hat, e1, e2, e4⟩
    · exact ⟨c, hoth x c hx hxa, rfl, rfl, rfl⟩
  · refine own_fldc F x1 hat e1 e2 e4 fun c' k' i' f' hf' => ?_
    obtain ⟨kk, vv, -⟩ := State.fieldFound?_setVm (s := Z) hZ.alike hf'
    cases (show s.fieldFound? tN "cause" thD = _ from vv).symm.trans Y.cause
    exact ap gC nC (by rw [Y.causeName]; decide) (by rw [Y.causeName]; decide) (by rw [Y.causeName]; decide)
  · refine own_fldc F x1 hat e1 e2 e4 fun c' k' i' f' hf' => ?_
    obtain ⟨kk, vv, -⟩ := State.fieldFound?_setVm (s := Z) hZ.alike hf'
    cases (show s.fieldFound? tN "detailMessage" msgD = _ from vv).symm.trans ffM
    exact ap gM nM (by rw [nmM]; decide) (by rw [nmM]; decide) (by rw [nmM]; decide)
theorem own_twIn : ∀ d ∈ own_tw "java/lang/IllegalArgumentException", d ∈ tables_1 := by decide +kernel
theorem own_fwIn : ∀ d ∈ own_fw "java/lang/IllegalArgumentException", d ∈ tables_1 := by decide +kernel
end Exc0
theorem pnj_46 : plainName "java/lang/Throwable" = true := by first | (simp [plainName, overriddenIn]; done) | decide +kernel
theorem efj_rm_thr (m : MethodId) (a1 : Addr) (a2 : Addr) : entryFrame m #[(.ref a1), (.ref a2)] 2 = mkF m 0 #[.val (.ref a1), .val (.ref a2)] [] := by first | (simp [entryFrame, mkF, argsToLocals, Value.category]; done) | rfl
theorem d46_0 : Dc c53 0 (.aload_n 0) 1 := by decide +kernel
theorem d46_1 : Dc c53 1 (.invokespecial 1) 3 := by decide +kernel
theorem d46_4 : Dc c53 4 (.aload_n 0) 1 := by decide +kernel
theorem d46_5 : Dc c53 5 (.aload_n 0) 1 := by decide +kernel
theorem d46_6 : Dc c53 6 (.putfield 7) 3 := by decide +kernel
theorem d46_9 : Dc c53 9 (.aload_n 0) 1 := by decide +kernel
theorem d46_10 : Dc c53 10 (.getstatic 13) 3 := by decide +kernel
theorem d46_13 : Dc c53 13 (.putfield 17) 3 := by decide +kernel
theorem d46_16 : Dc c53 16 (.aload_n 0) 1 := by decide +kernel
theorem d46_17 : Dc c53 17 (.getstatic 20) 3 := by decide +kernel
theorem d46_20 : Dc c53 20 (.putfield 24) 3 := by decide +kernel
theorem d46_23 : Dc c53 23 (.aload_n 0) 1 := by decide +kernel
theorem d46_24 : Dc c53 24 (.invokevirtual 27) 3 := by decide +kernel
theorem d46_27 : Dc c53 27 (.pop) 1 := by decide +kernel
theorem d46_28 : Dc c53 28 (.aload_n 0) 1 := by decide +kernel
theorem d46_29 : Dc c53 29 (.aload_n 1) 1 := by decide +kernel
theorem d46_30 : Dc c53 30 (.putfield 31) 3 := by decide +kernel
theorem d46_33 : Dc c53 33 (.return_) 1 := by decide +kernel
def Q_rm_thr (Z : State) (a1 : Addr) (a2 : Addr) (ua : Addr) (sa : Addr) (h0 : Heap) (n0 : Nat) (v : Option Value) (h : Heap) (L : List Loc) : Prop := v = none ∧ Fr n0 L ∧ Keep h0 h [a1] ∧ Exa Z h a1 "java/lang/IllegalArgumentException" ∧ Unt h a1 ∧ Fld Z h a1 "java/lang/Throwable" "detailMessage" "Ljava/lang/String;" (.ref a2) ∧ Fld Z h a1 "java/lang/Throwable" "cause" "Ljava/lang/Throwable;" (.ref a1)
theorem rm_thr (l : Launch) (Z : State) (a0 : Array Value) (hw : Hw a0 Z) (ws : List Jvm.Cond) (a1 : Addr) (a2 : Addr) (ua : Addr) (sa : Addr) (h0 : Heap) (n0 : Nat) (Z0 : n0 ≤ h0.size) (O0 : Ext Z.heap h0) (hn0 : Z.heap.size ≤ n0) (S_UN : Sta Z Z.heap "java/lang/Throwable" "UNASSIGNED_STACK" "[Ljava/lang/StackTraceElement;" (.ref ua)) (S_SP : Sta Z Z.heap "java/lang/Throwable" "SUPPRESSED_SENTINEL" "Ljava/util/List;" (.ref sa)) (hl : l.stackTraces = true) (E_a1 : Exa Z h0 a1 "java/lang/IllegalArgumentException") (U_a1 : Unt h0 a1) (g_a1 : n0 ≤ a1) (F_cause_a1 : Fld Z h0 a1 "java/lang/Throwable" "cause" "Ljava/lang/Throwable;" .null) (F_stackTrace_a1 : Fld Z h0 a1 "java/lang/Throwable" "stackTrace" "[Ljava/lang/StackTraceElement;" .null) (F_suppressedExceptions_a1 : Fld Z h0 a1 "java/lang/Throwable" "suppressedExceptions" "Ljava/util/List;" .null) (F_backtrace_a1 : Fld Z h0 a1 "java/lang/Throwable" "backtrace" "Ljava/lang/Object;" .null) (F_detailMessage_a1 : Fld Z h0 a1 "java/lang/Throwable" "detailMessage" "Ljava/lang/String;" .null) :
    MFK l y50_ jdk_78_method_2_code 2 none ws (rM 3 1 2752 42) #[(.ref a1), (.ref a2)] Z h0 (Q_rm_thr Z a1 a2 ua sa h0 n0) := by
  refine own_bodyF n0 (plainFor_of_name pnj_46) (fun m => efj_rm_thr m a1 a2) ?_
  intro p e s m below meth c s₁ S0 hx hby hml hZ hown hnm hret hlk X0 e0 hh N0 hK go0
  have K0 : Keep h0 h0 [a1] := Keep.refl h0 [a1]
  have go1 : Go p e below s₁ (mkF m 1 #[.val (.ref a1), .val (.ref a2)] [(.ref a1)]) S0 := by
    intro tt kt
    refine go0 tt ?_
    refine XS.aloadN X0.here hx rfl (hb hby d46_0) rfl rfl ?_
    exact kt
  obtain ⟨T2, X2, e2, st2⟩ := initO X0 hx hZ hown (wi hw 213 rfl) (wi hw 13 rfl) (wi hw 14 rfl) e0 (g := (mkF m 1 #[.val (.ref a1), .val (.ref a2)] [(.ref a1)])) rfl (by rw [hml]; rfl) rfl (hb hby d46_1) (by decide) (W := 0) (by show 2 * 0 + _ ≤ _; exact Nat.le_of_eq rfl) (by decide)
  have go3 : Go p e below T2 (mkF m 4 #[.val (.ref a1), .val (.ref a2)] []) S0 := fun t kt => go1 t (st2 _ kt)
  have go4 : Go p e below T2 (mkF m 6 #[.val (.ref a1), .val (.ref a2)] [(.ref a1), (.ref a1)]) S0 := by
    intro tt kt
    refine go3 tt ?_
    refine XS.aloadN X2.here hx rfl (hb hby d46_4) rfl rfl ?_
    refine XS.aloadN X2.here hx rfl (hb hby d46_5) rfl rfl ?_
    exact kt
  obtain ⟨T5, h5, X5, e5, W5, st5⟩ := putF X2 hx hZ hown (host := "") (Or.inl (wi hw 214 rfl)) Via.refl e2 F_cause_a1 E_a1 (Or.inl (wi hw 215 rfl)) (wi hw 62 rfl) (ty := (.object "java/lang/Throwable")) (by decide) rfl rfl (g := (mkF m 6 #[.val (.ref a1), .val (.ref a2)] [(.ref a1), (.ref a1)])) rfl rfl (hb hby d46_6)
  have E_a1 := E_a1.wr W5
  have U_a1 := U_a1.wr W5
  have F_stackTrace_a1 := F_stackTrace_a1.other W5 (Or.inr (slot_ne (Or.inl (wi hw 218 rfl)) (Or.inl (wi hw 215 rfl)) (by decide) (t := (.array (.object "java/lang/StackTraceElement"))) (t' := (.object "java/lang/Throwable")) (by decide) (by decide)))
  have F_suppressedExceptions_a1 := F_suppressedExceptions_a1.other W5 (Or.inr (slot_ne (Or.inl (wi hw 221 rfl)) (Or.inl (wi hw 215 rfl)) (by decide) (t := (.object "java/util/List")) (t' := (.object "java/lang/Throwable")) (by decide) (by decide)))
  have F_backtrace_a1 := F_backtrace_a1.other W5 (Or.inr (slot_ne (Or.inl (wi hw 246 rfl)) (Or.inl (wi hw 215 rfl)) (by decide) (t := (.object "java/lang/Object")) (t' := (.object "java/lang/Throwable")) (by decide) (by decide)))
  have F_detailMessage_a1 := F_detailMessage_a1.other W5 (Or.inr (slot_ne (Or.inl (wi hw 245 rfl)) (Or.inl (wi hw 215 rfl)) (by decide) (t := (.object "java/lang/String")) (t' := (.object "java/lang/Throwable")) (by decide) (by decide)))
  have F_cause_a1 := F_cause_a1.same W5
  have Z0 := Nat.le_trans Z0 (Keep.of_wr W5).1
  have K0 := K0.wr W5 (Or.inl (List.mem_of_getElem? (i := 0) rfl))
  have N5r := Fr.snoc X5 N0 g_a1
  have go6 : Go p e below T5 (mkF m 9 #[.val (.ref a1), .val (.ref a2)] []) S0 := fun t kt => go4 t (st5 _ kt)
  have go7 : Go p e below T5 (mkF m 10 #[.val (.ref a1), .val (.ref a2)] [(.ref a1)]) S0 := by
    intro tt kt
    refine go6 tt ?_
    refine XS.aloadN X5.here hx rfl (hb hby d46_9) rfl rfl ?_
    exact kt
  have S_N := S_UN.ext (oO O0 K0 hn0 (allS g_a1 all0))
  obtain ⟨T8, X8, e8, st8⟩ := getS2 X5 hx hZ hown (host := "") (Or.inl (wi hw 216 rfl)) Via.refl e5 S_N (g := (mkF m 10 #[.val (.ref a1), .val (.ref a2)] [(.ref a1)])) rfl (hb hby d46_10)
  have go9 : Go p e below T8 (mkF m 13 #[.val (.ref a1), .val (.ref a2)] [(.ref ua), (.ref a1)]) S0 := fun t kt => go7 t (st8 _ kt)
  obtain ⟨T10, h10, X10, e10, W10, st10⟩ := putF X8 hx hZ hown (host := "") (Or.inl (wi hw 217 rfl)) Via.refl e8 F_stackTrace_a1 E_a1 (Or.inl (wi hw 218 rfl)) (wi hw 62 rfl) (ty := (.array (.object "java/lang/StackTraceElement"))) (by decide) rfl rfl (g := (mkF m 13 #[.val (.ref a1), .val (.ref a2)] [(.ref ua), (.ref a1)])) rfl rfl (hb hby d46_13)
  have E_a1 := E_a1.wr W10
  have U_a1 := U_a1.wr W10
  have F_cause_a1 := F_cause_a1.other W10 (Or.inr (slot_ne (Or.inl (wi hw 215 rfl)) (Or.inl (wi hw 218 rfl)) (by decide) (t := (.object "java/lang/Throwable")) (t' := (.array (.object "java/lang/StackTraceElement"))) (by decide) (by decide)))
  have F_suppressedExceptions_a1 := F_suppressedExceptions_a1.other W10 (Or.inr (slot_ne (Or.inl (wi hw 221 rfl)) (Or.inl (wi hw 218 rfl)) (by decide) (t := (.object "java/util/List")) (t' := (.array (.object "java/lang/StackTraceElement"))) (by decide) (by decide)))
  have F_backtrace_a1 := F_backtrace_a1.other W10 (Or.inr (slot_ne (Or.inl (wi hw 246 rfl)) (Or.inl (wi hw 218 rfl)) (by decide) (t := (.object "java/lang/Object")) (t' := (.array (.object "java/lang/StackTraceElement"))) (by decide) (by decide)))
  have F_detailMessage_a1 := F_detailMessage_a1.other W10 (Or.inr (slot_ne (Or.inl (wi hw 245 rfl)) (Or.inl (wi hw 218 rfl)) (by decide) (t := (.object "java/lang/String")) (t' := (.array (.object "java/lang/StackTraceElement"))) (by decide) (by decide)))
  have F_stackTrace_a1 := F_stackTrace_a1.same W10
  have Z0 := Nat.le_trans Z0 (Keep.of_wr W10).1
  have K0 := K0.wr W10 (Or.inl (List.mem_of_getElem? (i := 0) rfl))
  have N10r := Fr.snoc X10 N5r g_a1
  have go11 : Go p e below T10 (mkF m 16 #[.val (.ref a1), .val (.ref a2)] []) S0 := fun t kt => go9 t (st10 _ kt)
  have go12 : Go p e below T10 (mkF m 17 #[.val (.ref a1), .val (.ref a2)] [(.ref a1)]) S0 := by
    intro tt kt
    refine go11 tt ?_
    refine XS.aloadN X10.here hx rfl (hb hby d46_16) rfl rfl ?_
    exact kt
  have S_N := S_SP.ext (oO O0 K0 hn0 (allS g_a1 all0))
  obtain ⟨T13, X13, e13, st13⟩ := getS2 X10 hx hZ hown (host := "") (Or.inl (wi hw 219 rfl)) Via.refl e10 S_N (g := (mkF m 17 #[.val (.ref a1), .val (.ref a2)] [(.ref a1)])) rfl (hb hby d46_17)
  have go14 : Go p e below T13 (mkF m 20 #[.val (.ref a1), .val (.ref a2)] [(.ref sa), (.ref a1)]) S0 := fun t kt => go12 t (st13 _ kt)
  obtain ⟨T15, h15, X15, e15, W15, st15⟩ := putF X13 hx hZ hown (host := "") (Or.inl (wi hw 220 rfl)) Via.refl e13 F_suppressedExceptions_a1 E_a1 (Or.inl (wi hw 221 rfl)) (wi hw 62 rfl) (ty := (.object "java/util/List")) (by decide) rfl rfl (g := (mkF m 20 #[.val (.ref a1), .val (.ref a2)] [(.ref sa), (.ref a1)])) rfl rfl (hb hby d46_20)
  have E_a1 := E_a1.wr W15
  have U_a1 := U_a1.wr W15
  have F_cause_a1 := F_cause_a1.other W15 (Or.inr (slot_ne (Or.inl (wi hw 215 rfl)) (Or.inl (wi hw 221 rfl)) (by decide) (t := (.object "java/lang/Throwable")) (t' := (.object "java/util/List")) (by decide) (by decide)))
  have F_stackTrace_a1 := F_stackTrace_a1.other W15 (Or.inr (slot_ne (Or.inl (wi hw 218 rfl)) (Or.inl (wi hw 221 rfl)) (by decide) (t := (.array (.object "java/lang/StackTraceElement"))) (t' := (.object "java/util/List")) (by decide) (by decide)))
  have F_backtrace_a1 := F_backtrace_a1.other W15 (Or.inr (slot_ne (Or.inl (wi hw 246 rfl)) (Or.inl (wi hw 221 rfl)) (by decide) (t := (.object "java/lang/Object")) (t' := (.object "java/util/List")) (by decide) (by decide)))
  have F_detailMessage_a1 := F_detailMessage_a1.other W15 (Or.inr (slot_ne (Or.inl (wi hw 245 rfl)) (Or.inl (wi hw 221 rfl)) (by decide) (t := (.object "java/lang/String")) (t' := (.object "java/util/List")) (by decide) (by decide)))
  have F_suppressedExceptions_a1 := F_suppressedExceptions_a1.same W15
  have Z0 := Nat.le_trans Z0 (Keep.of_wr W15).1
  have K0 := K0.wr W15 (Or.inl (List.mem_of_getElem? (i := 0) rfl))
  have N15r := Fr.snoc X15 N10r g_a1
  have go16 : Go p e below T15 (mkF m 23 #[.val (.ref a1), .val (.ref a2)] []) S0 := fun t kt => go14 t (st15 _ kt)
  have go17 : Go p e below T15 (mkF m 24 #[.val (.ref a1), .val (.ref a2)] [(.ref a1)]) S0 := by
    intro tt kt
    refine go16 tt ?_
    refine XS.aloadN X15.here hx rfl (hb hby d46_23) rfl rfl ?_
    exact kt
  have S_N := S_UN.ext (oO O0 K0 hn0 (allS g_a1 all0))
  obtain ⟨T18, h18, L18, X18, b18, e18, K18, U_a1, c18, d18, st18⟩ := own_fill X15 hx hl hZ hown (fun d hd => hw d (own_twIn d hd)) (fun d hd => hw d (own_fwIn d hd)) (wi hw 62 rfl) (by rw [hh]; exact ThS.ext O0 ThS.start) hK.1 hK.2 e15 E_a1 U_a1 F_backtrace_a1 F_stackTrace_a1 S_N (g := (mkF m 24 #[.val (.ref a1), .val (.ref a2)] [(.ref a1)])) rfl (by rw [hml]; rfl) rfl (hb hby d46_24) (by decide) (W := 0) (by show 2 * 0 + _ ≤ _; exact Nat.le_of_eq rfl) (by decide) (by decide) (by decide)
  have E_a1 := E_a1.keep K18
  have F_cause_a1 := c18 _ F_cause_a1
  have F_detailMessage_a1 := d18 _ F_detailMessage_a1
  have K0 := K0.trans K18 (allS (Or.inl (List.mem_cons_self ..)) all0)
  have Z0 := Nat.le_trans Z0 K18.1
  have N18 : Fr n0 _ := Fr.app N15r (fun y hy => by rw [b18 y hy]; exact g_a1)
  have go19 : Go p e below T18 (mkF m 27 #[.val (.ref a1), .val (.ref a2)] [(.ref a1)]) S0 := fun t kt => go17 t (st18 _ kt)
  have go20 : Go p e below T18 (mkF m 30 #[.val (.ref a1), .val (.ref a2)] [(.ref a2), (.ref a1)]) S0 := by
    intro tt kt
    refine go19 tt ?_
    refine XS.pop X18.here hx rfl (hb hby d46_27) rfl rfl ?_
    refine XS.aloadN X18.here hx rfl (hb hby d46_28) rfl rfl ?_
    refine XS.aloadN X18.here hx rfl (hb hby d46_29) rfl rfl ?_
    exact kt
  obtain ⟨T21, h21, X21, e21, W21, st21⟩ := putF X18 hx hZ hown (host := "") (Or.inl (wi hw 249 rfl)) Via.refl e18 F_detailMessage_a1 E_a1 (Or.inl (wi hw 245 rfl)) (wi hw 62 rfl) (ty := (.object "java/lang/String")) (by decide) rfl rfl (g := (mkF m 30 #[.val (.ref a1), .val (.ref a2)] [(.ref a2), (.ref a1)])) rfl rfl (hb hby d46_30)
  have E_a1 := E_a1.wr W21
  have U_a1 := U_a1.wr W21
  have F_cause_a1 := F_cause_a1.other W21 (Or.inr (slot_ne (Or.inl (wi hw 215 rfl)) (Or.inl (wi hw 245 rfl)) (by decide) (t := (.object "java/lang/Throwable")) (t' := (.object "java/lang/String")) (by decide) (by decide)))
  have F_detailMessage_a1 := F_detailMessage_a1.same W21
  have Z0 := Nat.le_trans Z0 (Keep.of_wr W21).1
  have K0 := K0.wr W21 (Or.inl (List.mem_of_getElem? (i := 0) rfl))
  have N21r := Fr.snoc X21 N18 g_a1
  have go22 : Go p e below T21 (mkF m 33 #[.val (.ref a1), .val (.ref a2)] []) S0 := fun t kt => go20 t (st21 _ kt)
  exact own_leaveV X21 hx hret hlk (hb hby d46_33) go22 e21 (⟨rfl, N21r, K0, E_a1, U_a1, F_detailMessage_a1, F_cause_a1⟩) (by decide) (by decide)
theorem pnj_47 : plainName "java/lang/Exception" = true := by first | (simp [plainName, overriddenIn]; done) | decide +kernel
theorem efj_rm_exc (m : MethodId) (a1 : Addr) (a2 : Addr) : entryFrame m #[(.ref a1), (.ref a2)] 2 = mkF m 0 #[.val (.ref a1), .val (.ref a2)] [] := by first | (simp [entryFrame, mkF, argsToLocals, Value.category]; done) | rfl
theorem d47_0 : Dc c33 0 (.aload_n 0) 1 := by decide +kernel
theorem d47_1 : Dc c33 1 (.aload_n 1) 1 := by decide +kernel
theorem d47_2 : Dc c33 2 (.invokespecial 7) 3 := by decide +kernel
theorem d47_5 : Dc c33 5 (.return_) 1 := by decide +kernel
def Q_rm_exc (Z : State) (a1 : Addr) (a2 : Addr) (ua : Addr) (sa : Addr) (h0 : Heap) (n0 : Nat) (v : Option Value) (h : Heap) (L : List Loc) : Prop := v = none ∧ Fr n0 L ∧ Keep h0 h [a1] ∧ Exa Z h a1 "java/lang/IllegalArgumentException" ∧ Unt h a1 ∧ Fld Z h a1 "java/lang/Throwable" "detailMessage" "Ljava/lang/String;" (.ref a2) ∧ Fld Z h a1 "java/lang/Throwable" "cause" "Ljava/lang/Throwable;" (.ref a1)
theorem rm_exc (l : Launch) (Z : State) (a0 : Array Value) (hw : Hw a0 Z) (ws : List Jvm.Cond) (a1 : Addr) (a2 : Addr) (ua : Addr) (sa : Addr) (h0 : Heap) (n0 : Nat) (Z0 : n0 ≤ h0.size) (O0 : Ext Z.heap h0) (hn0 : Z.heap.size ≤ n0) (S_UN : Sta Z Z.heap "java/lang/Throwable" "UNASSIGNED_STACK" "[Ljava/lang/StackTraceElement;" (.ref ua)) (S_SP : Sta Z Z.heap "java/lang/Throwable" "SUPPRESSED_SENTINEL" "Ljava/util/List;" (.ref sa)) (hl : l.stackTraces = true) (E_a1 : Exa Z h0 a1 "java/lang/IllegalArgumentException") (U_a1 : Unt h0 a1) (g_a1 : n0 ≤ a1) (F_cause_a1 : Fld Z h0 a1 "java/lang/Throwable" "cause" "Ljava/lang/Throwable;" .null) (F_stackTrace_a1 : Fld Z h0 a1 "java/lang/Throwable" "stackTrace" "[Ljava/lang/StackTraceElement;" .null) (F_suppressedExceptions_a1 : Fld Z h0 a1 "java/lang/Throwable" "suppressedExceptions" "Ljava/util/List;" .null) (F_backtrace_a1 : Fld Z h0 a1 "java/lang/Throwable" "backtrace" "Ljava/lang/Object;" .null) (F_detailMessage_a1 : Fld Z h0 a1 "java/lang/Throwable" "detailMessage" "Ljava/lang/String;" .null) :
    MFK l y45_ jdk_59_method_2_code 2 none ws (rM 4 1 2752 55) #[(.ref a1), (.ref a2)] Z h0 (Q_rm_exc Z a1 a2 ua sa h0 n0) := by
  refine own_bodyF n0 (plainFor_of_name pnj_47) (fun m => efj_rm_exc m a1 a2) ?_
  intro p e s m below meth c s₁ S0 hx hby hml hZ hown hnm hret hlk X0 e0 hh N0 hK go0
  have go1 : Go p e below s₁ (mkF m 2 #[.val (.ref a1), .val (.ref a2)] [(.ref a2), (.ref a1)]) S0 := by
    intro tt kt
    refine go0 tt ?_
    refine XS.aloadN X0.here hx rfl (hb hby d47_0) rfl rfl ?_
    refine XS.aloadN X0.here hx rfl (hb hby d47_1) rfl rfl ?_
    exact kt
  obtain ⟨_, _, ⟨T2, L2, k2, n2⟩, -, X2, ⟨Lc2, hQ2, l2, y2, z2⟩, st2⟩ := X0.specialBack hx (y := y50_) rfl hown (mvT hZ (wi hw 207 rfl)) (mvT hZ (wi hw 208 rfl)) (mvT hZ (wi hw 212 rfl)) (by decide) (backOfKL (W := 0) (rm_thr l Z a0 hw [] a1 a2 ua sa h0 n0 Z0 O0 hn0 S_UN S_SP hl E_a1 U_a1 g_a1 F_cause_a1 F_stackTrace_a1 F_suppressedExceptions_a1 F_backtrace_a1 F_detailMessage_a1) hZ (wi hw 212 rfl) (wi hw 211 rfl) (by decide) (by decide) hK.1 hK.2) (g := (mkF m 2 #[.val (.ref a1), .val (.ref a2)] [(.ref a2), (.ref a1)])) rfl (by rw [hml]; rfl) (Steps.refl _) (a := a1) (argsL := [(.ref a2)]) (rest := []) (lenOf pd11_ rfl) rfl (by show 2 * 0 + _ ≤ _; exact Nat.le_of_eq rfl) (hb hby d47_2) (fun _ _ => ⟨rfl, e0, (by decide : 0 + 1 ≤ _), (by decide : 0 + 2752 ≤ _)⟩)
  dsimp only [Pt.U, Pt.locs, Pt.cells, Pt.slots] at X2 l2 y2 z2 st2 hQ2
  subst l2 y2 z2
  obtain ⟨rfl, N2q, R2⟩ := hQ2
  have N2 := Fr.app N0 N2q
  have go3 : Go p e below T2 (mkF m 5 #[.val (.ref a1), .val (.ref a2)] []) S0 := fun t kt => go1 t (st2.trans kt)
  exact own_leaveV X2 hx hret hlk (hb hby d47_5) go3 rfl (⟨rfl, N2, R2⟩) (by decide) (by decide)
theorem pnj_48 : plainName "java/lang/RuntimeException" = true := by first | (simp [plainName, overriddenIn]; done) | decide +kernel
theorem efj_rm_rte (m : MethodId) (a1 : Addr) (a2 : Addr) : entryFrame m #[(.ref a1), (.ref a2)] 2 = mkF m 0 #[.val (.ref a1), .val (.ref a2)] [] := by first | (simp [entryFrame, mkF, argsToLocals, Value.category]; done) | rfl
theorem d48_0 : Dc c32 0 (.aload_n 0) 1 := by decide +kernel
theorem d48_1 : Dc c32 1 (.aload_n 1) 1 := by decide +kernel
theorem d48_2 : Dc c32 2 (.invokespecial 7) 3 := by decide +kernel
theorem d48_5 : Dc c32 5 (.return_) 1 := by decide +kernel
def Q_rm_rte (Z : State) (a1 : Addr) (a2 : Addr) (ua : Addr) (sa : Addr) (h0 : Heap) (n0 : Nat) (v : Option Value) (h : Heap) (L : List Loc) : Prop := v = none ∧ Fr n0 L ∧ Keep h0 h [a1] ∧ Exa Z h a1 "java/lang/IllegalArgumentException" ∧ Unt h a1 ∧ Fld Z h a1 "java/lang/Throwable" "detailMessage" "Ljava/lang/String;" (.ref a2) ∧ Fld Z h a1 "java/lang/Throwable" "cause" "Ljava/lang/Throwable;" (.ref a1)
theorem rm_rte (l : Launch) (Z : State) (a0 : Array Value) (hw : Hw a0 Z) (ws : List Jvm.Cond) (a1 : Addr) (a2 : Addr) (ua : Addr) (sa : Addr) (h0 : Heap) (n0 : Nat) (Z0 : n0 ≤ h0.size) (O0 : Ext Z.heap h0) (hn0 : Z.heap.size ≤ n0) (S_UN : Sta Z Z.heap "java/lang/Throwable" "UNASSIGNED_STACK" "[Ljava/lang/StackTraceElement;" (.ref ua)) (S_SP : Sta Z Z.heap "java/lang/Throwable" "SUPPRESSED_SENTINEL" "Ljava/util/List;" (.ref sa)) (hl : l.stackTraces = true) (E_a1 : Exa Z h0 a1 "java/lang/IllegalArgumentException") (U_a1 : Unt h0 a1) (g_a1 : n0 ≤ a1) (F_cause_a1 : Fld Z h0 a1 "java/lang/Throwable" "cause" "Ljava/lang/Throwable;" .null) (F_stackTrace_a1 : Fld Z h0 a1 "java/lang/Throwable" "stackTrace" "[Ljava/lang/StackTraceElement;" .null) (F_suppressedExceptions_a1 : Fld Z h0 a1 "java/lang/Throwable" "suppressedExceptions" "Ljava/util/List;" .null) (F_backtrace_a1 : Fld Z h0 a1 "java/lang/Throwable" "backtrace" "Ljava/lang/Object;" .null) (F_detailMessage_a1 : Fld Z h0 a1 "java/lang/Throwable" "detailMessage" "Ljava/lang/String;" .null) :
    MFK l y39_ jdk_58_method_2_code 2 none ws (rM 5 1 2752 68) #[(.ref a1), (.ref a2)] Z h0 (Q_rm_rte Z a1 a2 ua sa h0 n0) := by
  refine own_bodyF n0 (plainFor_of_name pnj_48) (fun m => efj_rm_rte m a1 a2) ?_
  intro p e s m below meth c s₁ S0 hx hby hml hZ hown hnm hret hlk X0 e0 hh N0 hK go0
  have go1 : Go p e below s₁ (mkF m 2 #[.val (.ref a1), .val (.ref a2)] [(.ref a2), (.ref a1)]) S0 := by
    intro tt kt
    refine go0 tt ?_
    refine XS.aloadN X0.here hx rfl (hb hby d48_0) rfl rfl ?_
    refine XS.aloadN X0.here hx rfl (hb hby d48_1) rfl rfl ?_
    exact kt
  obtain ⟨_, _, ⟨T2, L2, k2, n2⟩, -, X2, ⟨Lc2, hQ2, l2, y2, z2⟩, st2⟩ := X0.specialBack hx (y := y45_) rfl hown (mvT hZ (wi hw 201 rfl)) (mvT hZ (wi hw 202 rfl)) (mvT hZ (wi hw 206 rfl)) (by decide) (backOfKL (W := 0) (rm_exc l Z a0 hw [] a1 a2 ua sa h0 n0 Z0 O0 hn0 S_UN S_SP hl E_a1 U_a1 g_a1 F_cause_a1 F_stackTrace_a1 F_suppressedExceptions_a1 F_backtrace_a1 F_detailMessage_a1) hZ (wi hw 206 rfl) (wi hw 205 rfl) (by decide) (by decide) hK.1 hK.2) (g := (mkF m 2 #[.val (.ref a1), .val (.ref a2)] [(.ref a2), (.ref a1)])) rfl (by rw [hml]; rfl) (Steps.refl _) (a := a1) (argsL := [(.ref a2)]) (rest := []) (lenOf pd11_ rfl) rfl (by show 2 * 0 + _ ≤ _; exact Nat.le_of_eq rfl) (hb hby d48_2) (fun _ _ => ⟨rfl, e0, (by decide : 0 + 1 ≤ _), (by decide : 0 + 2752 ≤ _)⟩)
  dsimp only [Pt.U, Pt.locs, Pt.cells, Pt.slots] at X2 l2 y2 z2 st2 hQ2
  subst l2 y2 z2
  obtain ⟨rfl, N2q, R2⟩ := hQ2
  have N2 := Fr.app N0 N2q
  have go3 : Go p e below T2 (mkF m 5 #[.val (.ref a1), .val (.ref a2)] []) S0 := fun t kt => go1 t (st2.trans kt)
  exact own_leaveV X2 hx hret hlk (hb hby d48_5) go3 rfl (⟨rfl, N2, R2⟩) (by decide) (by decide)
theorem pnj_49 : plainName "java/lang/IllegalArgumentException" = true := by first | (simp [plainName, overriddenIn]; done) | decide +kernel
theorem efj_rm_iae (m : MethodId) (a1 : Addr) (a2 : Addr) : entryFrame m #[(.ref a1), (.ref a2)] 2 = mkF m 0 #[.val (.ref a1), .val (.ref a2)] [] := by first | (simp [entryFrame, mkF, argsToLocals, Value.category]; done) | rfl
theorem d49_0 : Dc c31 0 (.aload_n 0) 1 := by decide +kernel
theorem d49_1 : Dc c31 1 (.aload_n 1) 1 := by decide +kernel
theorem d49_2 : Dc c31 2 (.invokespecial 7) 3 := by decide +kernel
theorem d49_5 : Dc c31 5 (.return_) 1 := by decide +kernel
def Q_rm_iae (Z : State) (a1 : Addr) (a2 : Addr) (ua : Addr) (sa : Addr) (h0 : Heap) (n0 : Nat) (v : Option Value) (h : Heap) (L : List Loc) : Prop := v = none ∧ Fr n0 L ∧ Keep h0 h [a1] ∧ Exa Z h a1 "java/lang/IllegalArgumentException" ∧ Unt h a1 ∧ Fld Z h a1 "java/lang/Throwable" "detailMessage" "Ljava/lang/String;" (.ref a2) ∧ Fld Z h a1 "java/lang/Throwable" "cause" "Ljava/lang/Throwable;" (.ref a1)
theorem rm_iae (l : Launch) (Z : State) (a0 : Array Value) (hw : Hw a0 Z) (ws : List Jvm.Cond) (a1 : Addr) (a2 : Addr) (ua : Addr) (sa : Addr) (h0 : Heap) (n0 : Nat) (Z0 : n0 ≤ h0.size) (O0 : Ext Z.heap h0) (hn0 : Z.heap.size ≤ n0) (S_UN : Sta Z Z.heap "java/lang/Throwable" "UNASSIGNED_STACK" "[Ljava/lang/StackTraceElement;" (.ref ua)) (S_SP : Sta Z Z.heap "java/lang/Throwable" "SUPPRESSED_SENTINEL" "Ljava/util/List;" (.ref sa)) (hl : l.stackTraces = true) (E_a1 : Exa Z h0 a1 "java/lang/IllegalArgumentException") (U_a1 : Unt h0 a1) (g_a1 : n0 ≤ a1) (F_cause_a1 : Fld Z h0 a1 "java/lang/Throwable" "cause" "Ljava/lang/Throwable;" .null) (F_stackTrace_a1 : Fld Z h0 a1 "java/lang/Throwable" "stackTrace" "[Ljava/lang/StackTraceElement;" .null) (F_suppressedExceptions_a1 : Fld Z h0 a1 "java/lang/Throwable" "suppressedExceptions" "Ljava/util/List;" .null) (F_backtrace_a1 : Fld Z h0 a1 "java/lang/Throwable" "backtrace" "Ljava/lang/Object;" .null) (F_detailMessage_a1 : Fld Z h0 a1 "java/lang/Throwable" "detailMessage" "Ljava/lang/String;" .null) :
    MFK l y24_ jdk_57_method_2_code 2 none ws (rM 6 1 2752 81) #[(.ref a1), (.ref a2)] Z h0 (Q_rm_iae Z a1 a2 ua sa h0 n0) := by
  refine own_bodyF n0 (plainFor_of_name pnj_49) (fun m => efj_rm_iae m a1 a2) ?_
  intro p e s m below meth c s₁ S0 hx hby hml hZ hown hnm hret hlk X0 e0 hh N0 hK go0
  have go1 : Go p e below s₁ (mkF m 2 #[.val (.ref a1), .val (.ref a2)] [(.ref a2), (.ref a1)]) S0 := by
    intro tt kt
    refine go0 tt ?_
    refine XS.aloadN X0.here hx rfl (hb hby d49_0) rfl rfl ?_
    refine XS.aloadN X0.here hx rfl (hb hby d49_1) rfl rfl ?_
    exact kt
  obtain ⟨_, _, ⟨T2, L2, k2, n2⟩, -, X2, ⟨Lc2, hQ2, l2, y2, z2⟩, st2⟩ := X0.specialBack hx (y := y39_) rfl hown (mvT hZ (wi hw 195 rfl)) (mvT hZ (wi hw 196 rfl)) (mvT hZ (wi hw 200 rfl)) (by decide) (backOfKL (W := 0) (rm_rte l Z a0 hw [] a1 a2 ua sa h0 n0 Z0 O0 hn0 S_UN S_SP hl E_a1 U_a1 g_a1 F_cause_a1 F_stackTrace_a1 F_suppressedExceptions_a1 F_backtrace_a1 F_detailMessage_a1) hZ (wi hw 200 rfl) (wi hw 199 rfl) (by decide) (by decide) hK.1 hK.2) (g := (mkF m 2 #[.val (.ref a1), .val (.ref a2)] [(.ref a2), (.ref a1)])) rfl (by rw [hml]; rfl) (Steps.refl _) (a := a1) (argsL := [(.ref a2)]) (rest := []) (lenOf pd11_ rfl) rfl (by show 2 * 0 + _ ≤ _; exact Nat.le_of_eq rfl) (hb hby d49_2) (fun _ _ => ⟨rfl, e0, (by decide : 0 + 1 ≤ _), (by decide : 0 + 2752 ≤ _)⟩)
  dsimp only [Pt.U, Pt.locs, Pt.cells, Pt.slots] at X2 l2 y2 z2 st2 hQ2
  subst l2 y2 z2
  obtain ⟨rfl, N2q, R2⟩ := hQ2
  have N2 := Fr.app N0 N2q
  have go3 : Go p e below T2 (mkF m 5 #[.val (.ref a1), .val (.ref a2)] []) S0 := fun t kt => go1 t (st2.trans kt)
  exact own_leaveV X2 hx hret hlk (hb hby d49_5) go3 rfl (⟨rfl, N2, R2⟩) (by decide) (by decide)
theorem pnj_50 : plainName "com/example/ceresio/ceresio/StateFormat" = true := by first | (simp [plainName, overriddenIn]; done) | decide +kernel
theorem efj_rm_malN (m : MethodId)  : entryFrame m #[.null] 1 = mkF m 0 #[.val .null] [] := by first | (simp [entryFrame, mkF, argsToLocals, Value.category]; done) | rfl
theorem d50_0 : Dc c55 0 (.new 38) 3 := by decide +kernel
theorem d50_3 : Dc c55 3 (.dup) 1 := by decide +kernel
theorem d50_4 : Dc c55 4 (.new 17) 3 := by decide +kernel
theorem d50_7 : Dc c55 7 (.dup) 1 := by decide +kernel
theorem d50_8 : Dc c55 8 (.invokespecial 19) 3 := by decide +kernel
theorem d50_11 : Dc c55 11 (.ldc 40) 2 := by decide +kernel
theorem pd3_ : parseMethodDescriptor "(Ljava/lang/String;)Ljava/lang/StringBuilder;" = some ⟨[(.object "java/lang/String")], some (.object "java/lang/StringBuilder")⟩ := by decide +kernel
theorem d50_13 : Dc c55 13 (.invokevirtual 22) 3 := by decide +kernel
theorem d50_16 : Dc c55 16 (.aload_n 0) 1 := by decide +kernel
theorem d50_17 : Dc c55 17 (.invokevirtual 22) 3 := by decide +kernel
theorem pd13_ : parseMethodDescriptor "()Ljava/lang/String;" = some ⟨[], some (.object "java/lang/String")⟩ := by decide +kernel
theorem d50_20 : Dc c55 20 (.invokevirtual 31) 3 := by decide +kernel
theorem d50_23 : Dc c55 23 (.invokespecial 42) 3 := by decide +kernel
theorem d50_26 : Dc c55 26 (.areturn) 1 := by decide +kernel
def Q_rm_malN (Z : State) (fm : Value) (zc : Int32) (ua : Addr) (sa : Addr) (h0 : Heap) (n0 : Nat) (v : Option Value) (h : Heap) (L : List Loc) : Prop := ∃ (e_ mm : Addr), v = some (.ref e_) ∧ Fr n0 L ∧ Ext h0 h ∧ Exa Z h e_ "java/lang/IllegalArgumentException" ∧ Unt h e_ ∧ Fld Z h e_ "java/lang/Throwable" "detailMessage" "Ljava/lang/String;" (.ref mm) ∧ Fld Z h e_ "java/lang/Throwable" "cause" "Ljava/lang/Throwable;" (.ref e_) ∧ Bs Z h mm (own_k (own_P ++ own_N)) (own_b (own_P ++ own_N))
theorem rm_malN (l : Launch) (Z : State) (a0 : Array Value) (hw : ∀ d ∈ tables_1, d.before a0 Z = true) (ws : List Jvm.Cond) (fm : Value) (zc : Int32) (ua : Addr) (sa : Addr) (h0 : Heap) (n0 : Nat) (Z0 : n0 ≤ h0.size) (O0 : Ext Z.heap h0) (hn0 : Z.heap.size ≤ n0) (S_CS : Sta Z Z.heap "java/lang/String" "COMPACT_STRINGS" "Z" (.int zc)) (P5 : ¬ zc = (0 : Int32)) (S_AD : Sta Z Z.heap "java/lang/StringUTF16" "$assertionsDisabled" "Z" (.int (1 : Int32))) (S_HI : Sta Z Z.heap "java/lang/StringUTF16" "HI_BYTE_SHIFT" "I" (.int (0 : Int32))) (S_LO : Sta Z Z.heap "java/lang/StringUTF16" "LO_BYTE_SHIFT" "I" (.int (8 : Int32))) (S_SI : Sta Z Z.heap "jdk/internal/util/Preconditions" "SIOOBE_FORMATTER" "Ljava/util/function/BiFunction;" fm) (rf : fm.isRef = true) (hEL : EW Z a0 own_EL) (S_UN : Sta Z Z.heap "java/lang/Throwable" "UNASSIGNED_STACK" "[Ljava/lang/StackTraceElement;" (.ref ua)) (S_SP : Sta Z Z.heap "java/lang/Throwable" "SUPPRESSED_SENTINEL" "Ljava/util/List;" (.ref sa)) (hl : l.stackTraces = true) :
    MetFree l y8_ (head1 (Jvm.Cond.code y8_ prog_11_method_3_code 1 (some (.object "java/lang/IllegalArgumentException")) :: ws) ({ frames := 7, cells := 9, slots := 2930, locals := 95 } : Room)) (fun a U => a = #[.null] ∧ Z.Warmed39 U.vm ∧ U.heap = h0 ∧ CHv Z own_EL U.vm h0) (fun _ _ bl st _ => st.vm.MethodsKnown ∧ st.vm.FramesKnown bl) (fun _ U o U' => ∃ v L, o = .returned v ∧ Q_rm_malN Z fm zc ua sa h0 n0 v U'.heap L ∧ CHr Z own_EL U.vm U.heap U'.vm U'.heap ∧ ReturnedEndW U o U' L ({ frames := 7, cells := 9, slots := 2930, locals := 95 } : Room).cells ({ frames := 7, cells := 9, slots := 2930, locals := 95 } : Room).slots) := by
  refine MetFree.of_bodySF (plainFor_of_name pnj_50) hisR ?_
  intro p e s m args below meth c s₁ Bd hml0 hP hK
  obtain ⟨rfl, hZ, hh, CH⟩ := hP
  have hx := Bd.exec
  have hby := Bd.bytes
  have hml : c.maxLocals = 1 := hml0
  have hown : s.vm.findClass "com/example/ceresio/ceresio/StateFormat" = some m.cls := findClass_of_methodNamed Bd.named
  have hnm := (name_of_methodNamed Bd.named Bd.method).1
  have X0 : Stand p l e ({ frames := 7, cells := 9, slots := 2930, locals := 95 } : Room) s m #[.null] below meth c s₁ [] 0 0 := Stand.of_body Bd
  have e0 : s₁.heap = h0 := by rw [← hh, Bd.state]; rfl
  have N0 := Fr.nil n0
  have go0 : Go p e below s₁ (mkF m 0 #[.val .null] []) (s₁.setTop (entryFrame m #[.null] 1)) := fun t k => castTop (efj_rm_malN m ) k
  generalize (s₁.setTop (entryFrame m #[.null] 1)) = S0 at go0 ⊢
  have hS : s.Since s.vm s.heap.size := own_since s
  have hk : s.heap.size ≤ h0.size := by rw [← hh]; exact Nat.le_refl _
  have X0 : Stand p l e _ (s.setVm s.vm) m _ below meth c s₁ [] 0 0 := X0
  have hZ : Z.Warmed39 (s.setVm s.vm).vm := hZ
  have hown : (s.setVm s.vm).vm.findClass "com/example/ceresio/ceresio/StateFormat" = some m.cls := hown
  have R0 : CHr Z own_EL s.vm h0 s.vm h0 := CHr.refl CH
  have hstr : ∀ d ∈ Bundle.stringAtoms, d.before a0 Z = true := fun d hd => hw d (own_strAtoms d hd)
  have K0 : Keep h0 h0 [] := Keep.refl h0 []
  obtain ⟨T1, h1, X1, e1, E1, A1, D1, U1, st1⟩ := newO X0 hx hZ hown (wi hw 61 rfl) (wi hw 62 rfl) (wi hw 63 rfl) e0 (g := (mkF m 0 #[.val .null] [])) rfl (hb hby d50_0) (by decide) (by decide)
  obtain ⟨ev, g1⟩ : ∃ z, z = h0.size := ⟨_, rfl⟩
  rw [← g1] at A1 D1 st1 U1
  have g_ev : n0 ≤ ev := Nat.le_trans Z0 (Nat.le_of_eq g1.symm)
  have sz_ev : h0.size ≤ ev := Nat.le_trans K0.1 (Nat.le_of_eq g1.symm)
  have Z0 := Nat.le_trans Z0 E1.1
  have K0 := K0.ext E1
  have go2 : Go p e below T1 (mkF m 3 #[.val .null] [(.ref ev)]) S0 := fun t kt => go0 t (st1 _ kt)
  have E_ev := A1
  have F_cause_ev : Fld Z h1 ev "java/lang/Throwable" "cause" "Ljava/lang/Throwable;" .null := D1 (Or.inl (wi hw 215 rfl)) (ty := (.object "java/lang/Throwable")) (by decide)
  have F_stackTrace_ev : Fld Z h1 ev "java/lang/Throwable" "stackTrace" "[Ljava/lang/StackTraceElement;" .null := D1 (Or.inl (wi hw 218 rfl)) (ty := (.array (.object "java/lang/StackTraceElement"))) (by decide)
  have F_suppressedExceptions_ev : Fld Z h1 ev "java/lang/Throwable" "suppressedExceptions" "Ljava/util/List;" .null := D1 (Or.inl (wi hw 221 rfl)) (ty := (.object "java/util/List")) (by decide)
  have F_detailMessage_ev : Fld Z h1 ev "java/lang/Throwable" "detailMessage" "Ljava/lang/String;" .null := D1 (Or.inl (wi hw 245 rfl)) (ty := (.object "java/lang/String")) (by decide)
  have F_backtrace_ev : Fld Z h1 ev "java/lang/Throwable" "backtrace" "Ljava/lang/Object;" .null := D1 (Or.inl (wi hw 246 rfl)) (ty := (.object "java/lang/Object")) (by decide)
  have F_depth_ev : Fld Z h1 ev "java/lang/Throwable" "depth" "I" (.int (0 : Int32)) := D1 (Or.inl (wi hw 247 rfl)) (ty := .int) (by decide)
  have U_ev : Unt h1 ev := U1
  have lt_ev := E_ev.lt
  have go3 : Go p e below T1 (mkF m 4 #[.val .null] [(.ref ev), (.ref ev)]) S0 := by
    intro tt kt
    refine go2 tt ?_
    refine XS.dup X1.here hx rfl (hb hby d50_3) rfl rfl ?_
    exact kt
  obtain ⟨T4, h4, X4, e4, E4, A4, D4, -, st4⟩ := newO X1 hx hZ hown (wi hw 64 rfl) (wi hw 65 rfl) (wi hw 66 rfl) e1 (g := (mkF m 4 #[.val .null] [(.ref ev), (.ref ev)])) rfl (hb hby d50_4) (by decide) (by decide)
  obtain ⟨b, g4⟩ : ∃ z, z = h1.size := ⟨_, rfl⟩
  rw [← g4] at A4 D4 st4
  have g_b : n0 ≤ b := Nat.le_trans Z0 (Nat.le_of_eq g4.symm)
  have sz_b : h0.size ≤ b := Nat.le_trans K0.1 (Nat.le_of_eq g4.symm)
  have E_ev := E_ev.ext E4
  have F_cause_ev := F_cause_ev.ext E4
  have F_stackTrace_ev := F_stackTrace_ev.ext E4
  have F_suppressedExceptions_ev := F_suppressedExceptions_ev.ext E4
  have F_detailMessage_ev := F_detailMessage_ev.ext E4
  have F_backtrace_ev := F_backtrace_ev.ext E4
  have F_depth_ev := F_depth_ev.ext E4
  have U_ev := U_ev.ext E4
  have Z0 := Nat.le_trans Z0 E4.1
  have K0 := K0.ext E4
  have go5 : Go p e below T4 (mkF m 7 #[.val .null] [(.ref b), (.ref ev), (.ref ev)]) S0 := fun t kt => go3 t (st4 _ kt)
  have E_b := A4
  have F_value_b : Fld Z h4 b "java/lang/AbstractStringBuilder" "value" "[B" .null := D4 (Or.inl (wi hw 79 rfl)) (ty := (.array .byte)) (by decide)
  have F_coder_b : Fld Z h4 b "java/lang/AbstractStringBuilder" "coder" "B" (.int (0 : Int32)) := D4 (Or.inl (wi hw 81 rfl)) (ty := .byte) (by decide)
  have F_count_b : Fld Z h4 b "java/lang/AbstractStringBuilder" "count" "I" (.int (0 : Int32)) := D4 (Or.inl (wi hw 104 rfl)) (ty := .int) (by decide)
  have F_maybeLatin1_b : Fld Z h4 b "java/lang/AbstractStringBuilder" "maybeLatin1" "Z" (.int (0 : Int32)) := D4 (Or.inl (wi hw 322 rfl)) (ty := .boolean) (by decide)
  have ne_ev_b : ev ≠ b := oR lt_ev (Nat.le_of_eq g4.symm)
  have ne_b_ev := ne_ev_b.symm
  have go6 : Go p e below T4 (mkF m 8 #[.val .null] [(.ref b), (.ref b), (.ref ev), (.ref ev)]) S0 := by
    intro tt kt
    refine go5 tt ?_
    refine XS.dup X4.here hx rfl (hb hby d50_7) rfl rfl ?_
    exact kt
  obtain ⟨_, _, ⟨T7, L7, k7, n7⟩, -, X7, ⟨Lc7, hQ7, l7, y7, z7⟩, st7⟩ := X4.specialBack hx (y := y27_) rfl hown (mvT hZ (wi hw 67 rfl)) (mvT hZ (wi hw 68 rfl)) (mvT hZ (wi hw 69 rfl)) (by decide) (backOf (W := 3) (rm_sbi l Z a0 hw [] b zc h4 n0 Z0 (oO O0 K0 hn0 all0) hn0 S_CS P5 E_b F_value_b F_coder_b F_count_b F_maybeLatin1_b g_b) hZ (wi hw 69 rfl) (wi hw 66 rfl) (by decide) (by decide)) (g := (mkF m 8 #[.val .null] [(.ref b), (.ref b), (.ref ev), (.ref ev)])) rfl (by rw [hml]; rfl) (Steps.refl _) (a := b) (argsL := []) (rest := [(.ref b), (.ref ev), (.ref ev)]) (lenOf pd36_ rfl) rfl (by show 2 * 0 + _ ≤ _; exact Nat.le_of_eq rfl) (hb hby d50_8) (fun _ _ => ⟨rfl, e4, (by decide : 2 + 1 ≤ _), (by decide : 10 + 16 ≤ _)⟩)
  dsimp only [Pt.U, Pt.locs, Pt.cells, Pt.slots] at X7 l7 y7 z7 st7 hQ7
  subst l7 y7 z7
  obtain ⟨v_, kv, rfl, N7q, K7, E_b, F_value_b, F_coder_b, F_count_b, F_maybeLatin1_b, V_v_⟩ := hQ7
  have E_ev := E_ev.keep K7
  have F_cause_ev := F_cause_ev.keep K7 (ninS ne_ev_b nin0)
  have F_stackTrace_ev := F_stackTrace_ev.keep K7 (ninS ne_ev_b nin0)
  have F_suppressedExceptions_ev := F_suppressedExceptions_ev.keep K7 (ninS ne_ev_b nin0)
  have F_detailMessage_ev := F_detailMessage_ev.keep K7 (ninS ne_ev_b nin0)
  have F_backtrace_ev := F_backtrace_ev.keep K7 (ninS ne_ev_b nin0)
  have F_depth_ev := F_depth_ev.keep K7 (ninS ne_ev_b nin0)
  have U_ev := U_ev.keep K7 (ninS ne_ev_b nin0)
  have K0 := K0.trans K7 (allS (Or.inr sz_b) all0)
  have Z0 := Nat.le_trans Z0 K7.1
  have N7 := Fr.app N0 N7q
  have go8 : Go p e below T7 (mkF m 11 #[.val .null] [(.ref b), (.ref ev), (.ref ev)]) S0 := fun t kt => go6 t (st7.trans kt)
  have EK := oE K0
  have hk := Nat.le_trans hk EK.1
  have R0 := R0.trans (CHr.ext EK R0.1)
  obtain ⟨pp, T9, h9, k9, b9, c9, X9, e9, E9, hS9, hk9, hZ9, hown9, EX9, CO9, VA9, AR9, -, -, CR9, LI9, NE9, st9⟩ := ldcCH X7 hx hZ hown (wi hw 82 rfl) hstr rfl hS hk hEL (by simp [own_EL]) R0.1 (vs := ((([(109 : Int32), (97 : Int32), (108 : Int32), (102 : Int32), (111 : Int32), (114 : Int32), (109 : Int32), (101 : Int32), (100 : Int32), (32 : Int32), (115 : Int32), (116 : Int32), (97 : Int32), (116 : Int32), (101 : Int32), (58 : Int32), (32 : Int32)] : List Int32).map (fun c => c.toInt8.toInt32)).map Value.int)) (z := (17 : Int32)) (own_text_pp : _ ∧ _) (by decide) rfl (g := (mkF m 11 #[.val .null] [(.ref b), (.ref ev), (.ref ev)])) rfl (hb hby d50_11) (n := 68) (by decide +kernel) (by decide) (by decide) (by decide)
  have E_ev := E_ev.ext E9
  have F_cause_ev := F_cause_ev.ext E9
  have F_stackTrace_ev := F_stackTrace_ev.ext E9
  have F_suppressedExceptions_ev := F_suppressedExceptions_ev.ext E9
  have F_detailMessage_ev := F_detailMessage_ev.ext E9
  have F_backtrace_ev := F_backtrace_ev.ext E9
  have F_depth_ev := F_depth_ev.ext E9
  have U_ev := U_ev.ext E9
  have E_b := E_b.ext E9
  have F_value_b := F_value_b.ext E9
  have F_coder_b := F_coder_b.ext E9
  have F_count_b := F_count_b.ext E9
  have F_maybeLatin1_b := F_maybeLatin1_b.ext E9
  have V_v_ := V_v_.ext E9
  have Z0 := Nat.le_trans Z0 E9.1
  have K0 := K0.ext E9
  have R0 := R0.trans CR9
  have go10 : Go p e below T9 (mkF m 13 #[.val .null] [(.ref pp), (.ref b), (.ref ev), (.ref ev)]) S0 := fun t kt => go8 t (st9 _ kt)
  have L_pp : Str Z h9 pp [(109 : Int32), (97 : Int32), (108 : Int32), (102 : Int32), (111 : Int32), (114 : Int32), (109 : Int32), (101 : Int32), (100 : Int32), (32 : Int32), (115 : Int32), (116 : Int32), (97 : Int32), (116 : Int32), (101 : Int32), (58 : Int32), (32 : Int32)] := ⟨b9, c9, EX9, CO9, VA9, AR9, by decide, by decide⟩
  have SB1 : Safe Z own_EL T9.vm h9 b := (Safe.exa hZ9.alike E_b (by decide) (by decide))
  have SE1 : Safe Z own_EL T9.vm h9 ev := (Safe.exa hZ9.alike E_ev (by decide) (by decide))
  have ne_pp_b : pp ≠ b := Ne.symm (NE9 b SB1).1
  have ne_t_b : b9 ≠ b := Ne.symm (NE9 b SB1).2
  have EXp := EX9
  have COp := CO9
  have VAp := VA9
  have ARp : Arv Z h9 b9 c9 .byte (Int32.ofNat own_PB.length) own_PB (.int (0 : Int32)) := by rw [own_PBl]; exact oA AR9 own_PBe
  have K1 : Keep h9 h9 [b, ev] := Keep.refl _ _
  have lt_ev := E_ev.lt
  have lt_bb := E_b.lt
  obtain ⟨cq11, kq11, q11a, q11b, q11c⟩ := isOf hZ9 e9 E_b
  obtain ⟨_, _, ⟨T11, L11, k11, n11⟩, -, X11, ⟨Lc11, hQ11, l11, y11, z11⟩, st11⟩ := X9.virtualBack hx (y := y0_) (z := y0_) hown9 (mvT hZ9 (wi hw 83 rfl)) (mvT hZ9 (wi hw 84 rfl)) (notFace_of_selects (args := #[]) (mvT hZ9 (wi hw 86 rfl))) (mvT hZ9 (wi hw 86 rfl)) (mvT hZ9 (wi hw 85 rfl)) (by decide) (backOf (W := 2) (rm_sapp1 l Z a0 hw [] b pp b9 c9 v_ kv zc h9 n0 Z0 (oO O0 K0 hn0 all0) hn0 S_CS P5 E_b F_value_b F_coder_b F_count_b F_maybeLatin1_b EXp COp VAp ARp g_b V_v_ ne_pp_b ne_t_b) hZ9 (wi hw 87 rfl) (wi hw 66 rfl) (by decide) (by decide)) q11a q11c (g := (mkF m 13 #[.val .null] [(.ref pp), (.ref b), (.ref ev), (.ref ev)])) rfl (by rw [hml]; rfl) (Steps.refl _) (argsL := [(.ref pp)]) (rest := [(.ref ev), (.ref ev)]) (lenOf pd3_ rfl) rfl (by show 2 * 0 + _ ≤ _; exact Nat.le_of_eq rfl) (hb hby d50_13) (fun _ _ => ⟨rfl, e9, (by decide : 5 + 1 ≤ _), (by decide : 98 + 34 ≤ _)⟩)
  dsimp only [Pt.U, Pt.locs, Pt.cells, Pt.slots] at X11 l11 y11 z11 st11 hQ11
  subst l11 y11 z11
  obtain ⟨u, ku, rfl, N11q, K11, E_b, F_value_b, F_coder_b, F_count_b, F_maybeLatin1_b, V_u, sz_u⟩ := hQ11
  have ne_ev_u : ev ≠ u := oR lt_ev sz_u
  have g_u : n0 ≤ u := Nat.le_trans Z0 sz_u
  have szh_u : h0.size ≤ u := Nat.le_trans K0.1 sz_u
  have szk_u := Nat.le_trans K1.1 sz_u
  have ne_b_u : b ≠ u := oR lt_bb sz_u
  have E_ev := E_ev.keep K11
  have F_cause_ev := F_cause_ev.keep K11 (ninS ne_ev_b nin0)
  have F_stackTrace_ev := F_stackTrace_ev.keep K11 (ninS ne_ev_b nin0)
  have F_suppressedExceptions_ev := F_suppressedExceptions_ev.keep K11 (ninS ne_ev_b nin0)
  have F_detailMessage_ev := F_detailMessage_ev.keep K11 (ninS ne_ev_b nin0)
  have F_backtrace_ev := F_backtrace_ev.keep K11 (ninS ne_ev_b nin0)
  have F_depth_ev := F_depth_ev.keep K11 (ninS ne_ev_b nin0)
  have U_ev := U_ev.keep K11 (ninS ne_ev_b nin0)
  have K0 := K0.trans K11 (allS (Or.inr sz_b) all0)
  have K1 := K1.trans K11 (allS (Or.inl (List.mem_of_getElem? (i := 0) rfl)) all0)
  have Z0 := Nat.le_trans Z0 K11.1
  have N11 := Fr.app N7 N11q
  have go12 : Go p e below T11 (mkF m 16 #[.val .null] [(.ref b), (.ref ev), (.ref ev)]) S0 := fun t kt => go10 t (st11.trans kt)
  have go13 : Go p e below T11 (mkF m 17 #[.val .null] [.null, (.ref b), (.ref ev), (.ref ev)]) S0 := by
    intro tt kt
    refine go12 tt ?_
    refine XS.aloadN X11.here hx rfl (hb hby d50_16) rfl rfl ?_
    exact kt
  obtain ⟨cq14, kq14, q14a, q14b, q14c⟩ := isOf hZ9 rfl E_b
  obtain ⟨_, _, ⟨T14, L14, k14, n14⟩, -, X14, ⟨Lc14, hQ14, l14, y14, z14⟩, st14⟩ := X11.virtualBack hx (y := y0_) (z := y0_) hown9 (mvT hZ9 (wi hw 83 rfl)) (mvT hZ9 (wi hw 84 rfl)) (notFace_of_selects (args := #[]) (mvT hZ9 (wi hw 86 rfl))) (mvT hZ9 (wi hw 86 rfl)) (mvT hZ9 (wi hw 85 rfl)) (by decide) (backOf (W := 2) (rm_sappN l Z a0 hw [] b u ku zc T11.heap n0 Z0 (oO O0 K0 hn0 all0) hn0 S_CS P5 E_b F_value_b F_coder_b F_count_b F_maybeLatin1_b g_b g_u V_u ne_b_u) hZ9 (wi hw 87 rfl) (wi hw 66 rfl) (by decide) (by decide)) q14a q14c (g := (mkF m 17 #[.val .null] [.null, (.ref b), (.ref ev), (.ref ev)])) rfl (by rw [hml]; rfl) (Steps.refl _) (argsL := [.null]) (rest := [(.ref ev), (.ref ev)]) (lenOf pd3_ rfl) rfl (by show 2 * 0 + _ ≤ _; exact Nat.le_of_eq rfl) (hb hby d50_17) (fun _ _ => ⟨rfl, rfl, (by decide : 6 + 0 ≤ _), (by decide : 132 + 0 ≤ _)⟩)
  dsimp only [Pt.U, Pt.locs, Pt.cells, Pt.slots] at X14 l14 y14 z14 st14 hQ14
  subst l14 y14 z14
  obtain ⟨rfl, N14q, K14, E_b, F_value_b, F_coder_b, F_count_b, F_maybeLatin1_b, V_u⟩ := hQ14
  have E_ev := E_ev.keep K14
  have F_cause_ev := F_cause_ev.keep K14 (ninS ne_ev_b (ninS ne_ev_u nin0))
  have F_stackTrace_ev := F_stackTrace_ev.keep K14 (ninS ne_ev_b (ninS ne_ev_u nin0))
  have F_suppressedExceptions_ev := F_suppressedExceptions_ev.keep K14 (ninS ne_ev_b (ninS ne_ev_u nin0))
  have F_detailMessage_ev := F_detailMessage_ev.keep K14 (ninS ne_ev_b (ninS ne_ev_u nin0))
  have F_backtrace_ev := F_backtrace_ev.keep K14 (ninS ne_ev_b (ninS ne_ev_u nin0))
  have F_depth_ev := F_depth_ev.keep K14 (ninS ne_ev_b (ninS ne_ev_u nin0))
  have U_ev := U_ev.keep K14 (ninS ne_ev_b (ninS ne_ev_u nin0))
  have K0 := K0.trans K14 (allS (Or.inr sz_b) (allS (Or.inr szh_u) all0))
  have K1 := K1.trans K14 (allS (Or.inl (List.mem_of_getElem? (i := 0) rfl)) (allS (Or.inr szk_u) all0))
  have Z0 := Nat.le_trans Z0 K14.1
  have N14 := Fr.app N11 N14q
  have go15 : Go p e below T14 (mkF m 20 #[.val .null] [(.ref b), (.ref ev), (.ref ev)]) S0 := fun t kt => go13 t (st14.trans kt)
  have lt_ev := E_ev.lt
  obtain ⟨cq16, kq16, q16a, q16b, q16c⟩ := isOf hZ9 rfl E_b
  obtain ⟨_, _, ⟨T16, L16, k16, n16⟩, -, X16, ⟨Lc16, hQ16, l16, y16, z16⟩, st16⟩ := X14.virtualBack hx (y := y5_) (z := y5_) hown9 (mvT hZ9 (wi hw 153 rfl)) (mvT hZ9 (wi hw 154 rfl)) (notFace_of_selects (args := #[]) (mvT hZ9 (wi hw 156 rfl))) (mvT hZ9 (wi hw 156 rfl)) (mvT hZ9 (wi hw 155 rfl)) (by decide) (backOf (W := 2) (rm_ts0 l Z a0 hw [] b u ku (17 + 4) 34 (own_DL own_NB) zc T14.heap n0 Z0 (oO O0 K0 hn0 all0) hn0 S_CS P5 E_b F_value_b F_coder_b F_count_b F_maybeLatin1_b V_u (by decide +kernel) (by decide) (by decide) (by decide)) hZ9 (wi hw 157 rfl) (wi hw 66 rfl) (by decide) (by decide)) q16a q16c (g := (mkF m 20 #[.val .null] [(.ref b), (.ref ev), (.ref ev)])) rfl (by rw [hml]; rfl) (Steps.refl _) (argsL := []) (rest := [(.ref ev), (.ref ev)]) (lenOf pd13_ rfl) rfl (by show 2 * 0 + _ ≤ _; exact Nat.le_of_eq rfl) (hb hby d50_20) (fun _ _ => ⟨rfl, rfl, (by decide : 6 + 2 ≤ _), (by decide : 132 + 46 ≤ _)⟩)
  dsimp only [Pt.U, Pt.locs, Pt.cells, Pt.slots] at X16 l16 y16 z16 st16 hQ16
  subst l16 y16 z16
  obtain ⟨s_, rfl, N16q, E16, sz_s, B_m⟩ := hQ16
  have K1 := K1.ext E16
  have ne_s_ev : s_ ≠ ev := oL lt_ev sz_s
  obtain ⟨tm, km, sz_t, EXm, COm, VAm, ARm⟩ := B_m
  have ne_t_ev : tm ≠ ev := oL lt_ev sz_t
  have E_ev := E_ev.ext E16
  have F_cause_ev := F_cause_ev.ext E16
  have F_stackTrace_ev := F_stackTrace_ev.ext E16
  have F_suppressedExceptions_ev := F_suppressedExceptions_ev.ext E16
  have F_detailMessage_ev := F_detailMessage_ev.ext E16
  have F_backtrace_ev := F_backtrace_ev.ext E16
  have F_depth_ev := F_depth_ev.ext E16
  have U_ev := U_ev.ext E16
  have Z0 := Nat.le_trans Z0 E16.1
  have K0 := K0.ext E16
  have N16 := Fr.app N14 N16q
  have go17 : Go p e below T16 (mkF m 23 #[.val .null] [(.ref s_), (.ref ev), (.ref ev)]) S0 := fun t kt => go15 t (st16.trans kt)
  obtain ⟨_, _, ⟨T18, L18, k18, n18⟩, -, X18, ⟨Lc18, hQ18, l18, y18, z18⟩, st18⟩ := X16.specialBack hx (y := y24_) rfl hown9 (mvT hZ9 (wi hw 192 rfl)) (mvT hZ9 (wi hw 193 rfl)) (mvT hZ9 (wi hw 194 rfl)) (by decide) (backOfKL (W := 1) (rm_iae l Z a0 hw [] ev s_ ua sa T16.heap n0 Z0 (oO O0 K0 hn0 all0) hn0 S_UN S_SP hl E_ev U_ev g_ev F_cause_ev F_stackTrace_ev F_suppressedExceptions_ev F_backtrace_ev F_detailMessage_ev) hZ9 (wi hw 194 rfl) (wi hw 63 rfl) (by decide) (by decide) (Vm.MethodsKnown.alikeC hS9.1.alike hK.1) (Vm.FramesKnown.alikeC hS9.1.alike hK.2)) (g := (mkF m 23 #[.val .null] [(.ref s_), (.ref ev), (.ref ev)])) rfl (by rw [hml]; rfl) (Steps.refl _) (a := ev) (argsL := [(.ref s_)]) (rest := [(.ref ev)]) (lenOf pd11_ rfl) rfl (by show 2 * 0 + _ ≤ _; exact Nat.le_of_eq rfl) (hb hby d50_23) (fun _ _ => ⟨rfl, rfl, (by decide : 8 + 1 ≤ _), (by decide : 178 + 2752 ≤ _)⟩)
  dsimp only [Pt.U, Pt.locs, Pt.cells, Pt.slots] at X18 l18 y18 z18 st18 hQ18
  subst l18 y18 z18
  obtain ⟨rfl, N18q, K18, E18, U18, Fm18, Fc18⟩ := hQ18
  have Z0 := Nat.le_trans Z0 K18.1
  have N18 := Fr.app N16 N18q
  have go19 : Go p e below T18 (mkF m 26 #[.val .null] [(.ref ev)]) S0 := fun t kt => go17 t (st18.trans kt)
  have KE := K18
  have K0 := K0.trans KE (allS (Or.inr sz_ev) all0)
  have K1 := K1.trans KE (allS (Or.inl (List.mem_of_getElem? (i := 1) rfl)) all0)
  have R0 := R0.trans (CHr.keep K1 (allS SB1 (allS SE1 all0)) R0.1)
  have hk9 := Nat.le_trans hk9 K1.1
  have BM : Bs Z T18.heap s_ (own_k (own_P ++ own_N)) (own_b (own_P ++ own_N)) := by
    rw [show own_k (own_P ++ own_N) = 0 by decide, show own_b (own_P ++ own_N) = (own_DL own_NB).take (17 + 4) by decide +kernel]
    exact ⟨tm, km, EXm.keep KE, COm.keep KE (ninS ne_s_ev nin0), VAm.keep KE (ninS ne_s_ev nin0), ARm.keep KE (ninS ne_t_ev nin0)⟩
  obtain ⟨fs, hr, hrun, hended, hend⟩ := X18.leaveW hS9 (hk9) (v := some (.ref ev)) (fun h => by rw [Bd.returns] at h; cases h)
  refine ⟨_, _, go19 _ ?_, hrun, hended, _, _, rfl, ?_, (by rw [hh]; show CHr Z own_EL s.vm h0 T18.vm T18.heap; exact R0.trans (CHv.at X18 hZ9 hEL R0.1)), hend.1, hend.2.1, hend.2.2.1, hend.2.2.2.mono (by decide) (by decide)⟩
  · show Steps p.tables e below (T18.setTop (mkF m 26 #[.val .null] [(.ref ev)])) _
    jvm_step X18.here [X18.here.top, hx, (hb hby d50_26), X18.method', Bd.returns, Value.isRef, FieldType.isReference]
    first | (intro acts; rw [hr _ acts rfl rfl rfl]) | rw [hr _ _ rfl rfl rfl]
    exact Steps.refl _
  · show Q_rm_malN Z fm zc ua sa h0 n0 _ T18.heap _
    exact ⟨ev, s_, rfl, N18, oE K0, E18, U18, Fm18, Fc18, BM⟩
theorem efj_rm_mal (m : MethodId) (a1 : Addr) : entryFrame m #[(.ref a1)] 1 = mkF m 0 #[.val (.ref a1)] [] := by first | (simp [entryFrame, mkF, argsToLocals, Value.category]; done) | rfl
def Q_rm_mal (Z : State) (a1 : Addr) (cs : List Int32) (fm : Value) (zc : Int32) (ua : Addr) (sa : Addr) (h0 : Heap) (n0 : Nat) (v : Option Value) (h : Heap) (L : List Loc) : Prop := ∃ (e_ mm : Addr), v = some (.ref e_) ∧ Fr n0 L ∧ Ext h0 h ∧ Exa Z h e_ "java/lang/IllegalArgumentException" ∧ Unt h e_ ∧ Fld Z h e_ "java/lang/Throwable" "detailMessage" "Ljava/lang/String;" (.ref mm) ∧ Fld Z h e_ "java/lang/Throwable" "cause" "Ljava/lang/Throwable;" (.ref e_) ∧ Bs Z h mm (own_k (own_P ++ cs)) (own_b (own_P ++ cs))
theorem rm_mal (l : Launch) (Z : State) (a0 : Array Value) (hw : ∀ d ∈ tables_1, d.before a0 Z = true) (ws : List Jvm.Cond) (a1 : Addr) (cs : List Int32) (fm : Value) (zc : Int32) (ua : Addr) (sa : Addr) (h0 : Heap) (n0 : Nat) (Z0 : n0 ≤ h0.size) (O0 : Ext Z.heap h0) (hn0 : Z.heap.size ≤ n0) (S_CS : Sta Z Z.heap "java/lang/String" "COMPACT_STRINGS" "Z" (.int zc)) (P5 : ¬ zc = (0 : Int32)) (S_AD : Sta Z Z.heap "java/lang/StringUTF16" "$assertionsDisabled" "Z" (.int (1 : Int32))) (S_HI : Sta Z Z.heap "java/lang/StringUTF16" "HI_BYTE_SHIFT" "I" (.int (0 : Int32))) (S_LO : Sta Z Z.heap "java/lang/StringUTF16" "LO_BYTE_SHIFT" "I" (.int (8 : Int32))) (S_SI : Sta Z Z.heap "jdk/internal/util/Preconditions" "SIOOBE_FORMATTER" "Ljava/util/function/BiFunction;" fm) (rf : fm.isRef = true) (hEL : EW Z a0 own_EL) (S_UN : Sta Z Z.heap "java/lang/Throwable" "UNASSIGNED_STACK" "[Ljava/lang/StackTraceElement;" (.ref ua)) (S_SP : Sta Z Z.heap "java/lang/Throwable" "SUPPRESSED_SENTINEL" "Ljava/util/List;" (.ref sa)) (hl : l.stackTraces = true) (B_s : Bs Z h0 a1 (own_k cs) (own_b cs)) (hcl : cs.length ≤ 3) :
    MetFree l y8_ (head1 (Jvm.Cond.code y8_ prog_11_method_3_code 1 (some (.object "java/lang/IllegalArgumentException")) :: ws) ({ frames := 10, cells := 10, slots := 2998, locals := 145 } : Room)) (fun a U => a = #[(.ref a1)] ∧ Z.Warmed39 U.vm ∧ U.heap = h0 ∧ CHv Z own_EL U.vm h0) (fun _ _ bl st _ => st.vm.MethodsKnown ∧ st.vm.FramesKnown bl) (fun _ U o U' => ∃ v L, o = .returned v ∧ Q_rm_mal Z a1 cs fm zc ua sa h0 n0 v U'.heap L ∧ CHr Z own_EL U.vm U.heap U'.vm U'.heap ∧ ReturnedEndW U o U' L ({ frames := 10, cells := 10, slots := 2998, locals := 145 } : Room).cells ({ frames := 10, cells := 10, slots := 2998, locals := 145 } : Room).slots) := by
  refine MetFree.of_bodySF (plainFor_of_name pnj_50) hisR ?_
  intro p e s m args below meth c s₁ Bd hml0 hP hK
  obtain ⟨rfl, hZ, hh, CH⟩ := hP
  have hx := Bd.exec
  have hby := Bd.bytes
  have hml : c.maxLocals = 1 := hml0
  have hown : s.vm.findClass "com/example/ceresio/ceresio/StateFormat" = some m.cls := findClass_of_methodNamed Bd.named
  have hnm := (name_of_methodNamed Bd.named Bd.method).1
  have X0 : Stand p l e ({ frames := 10, cells := 10, slots := 2998, locals := 145 } : Room) s m #[(.ref a1)] below meth c s₁ [] 0 0 := Stand.of_body Bd
  have e0 : s₁.heap = h0 := by rw [← hh, Bd.state]; rfl
  have N0 := Fr.nil n0
  have go0 : Go p e below s₁ (mkF m 0 #[.val (.ref a1)] []) (s₁.setTop (entryFrame m #[(.ref a1)] 1)) := fun t k => castTop (efj_rm_mal m a1) k
  generalize (s₁.setTop (entryFrame m #[(.ref a1)] 1)) = S0 at go0 ⊢
  have hS : s.Since s.vm s.heap.size := own_since s
  have hk : s.heap.size ≤ h0.size := by rw [← hh]; exact Nat.le_refl _
  have X0 : Stand p l e _ (s.setVm s.vm) m _ below meth c s₁ [] 0 0 := X0
  have hZ : Z.Warmed39 (s.setVm s.vm).vm := hZ
  have hown : (s.setVm s.vm).vm.findClass "com/example/ceresio/ceresio/StateFormat" = some m.cls := hown
  have R0 : CHr Z own_EL s.vm h0 s.vm h0 := CHr.refl CH
  have hstr : ∀ d ∈ Bundle.stringAtoms, d.before a0 Z = true := fun d hd => hw d (own_strAtoms d hd)
  have K0 : Keep h0 h0 [] := Keep.refl h0 []
  obtain ⟨t, kt, E_a1, C_a1, V_a1, A_t⟩ := B_s
  have lt_t := A_t.lt
  have lt_a1 := E_a1.lt
  obtain ⟨T1, h1, X1, e1, E1, A1, D1, U1, st1⟩ := newO X0 hx hZ hown (wi hw 61 rfl) (wi hw 62 rfl) (wi hw 63 rfl) e0 (g := (mkF m 0 #[.val (.ref a1)] [])) rfl (hb hby d50_0) (by decide) (by decide)
  obtain ⟨ev, g1⟩ : ∃ z, z = h0.size := ⟨_, rfl⟩
  rw [← g1] at A1 D1 st1 U1
  have g_ev : n0 ≤ ev := Nat.le_trans Z0 (Nat.le_of_eq g1.symm)
  have sz_ev : h0.size ≤ ev := Nat.le_trans K0.1 (Nat.le_of_eq g1.symm)
  have Z0 := Nat.le_trans Z0 E1.1
  have K0 := K0.ext E1
  have go2 : Go p e below T1 (mkF m 3 #[.val (.ref a1)] [(.ref ev)]) S0 := fun t kt => go0 t (st1 _ kt)
  have E_ev := A1
  have F_cause_ev : Fld Z h1 ev "java/lang/Throwable" "cause" "Ljava/lang/Throwable;" .null := D1 (Or.inl (wi hw 215 rfl)) (ty := (.object "java/lang/Throwable")) (by decide)
  have F_stackTrace_ev : Fld Z h1 ev "java/lang/Throwable" "stackTrace" "[Ljava/lang/StackTraceElement;" .null := D1 (Or.inl (wi hw 218 rfl)) (ty := (.array (.object "java/lang/StackTraceElement"))) (by decide)
  have F_suppressedExceptions_ev : Fld Z h1 ev "java/lang/Throwable" "suppressedExceptions" "Ljava/util/List;" .null := D1 (Or.inl (wi hw 221 rfl)) (ty := (.object "java/util/List")) (by decide)
  have F_detailMessage_ev : Fld Z h1 ev "java/lang/Throwable" "detailMessage" "Ljava/lang/String;" .null := D1 (Or.inl (wi hw 245 rfl)) (ty := (.object "java/lang/String")) (by decide)
  have F_backtrace_ev : Fld Z h1 ev "java/lang/Throwable" "backtrace" "Ljava/lang/Object;" .null := D1 (Or.inl (wi hw 246 rfl)) (ty := (.object "java/lang/Object")) (by decide)
  have F_depth_ev : Fld Z h1 ev "java/lang/Throwable" "depth" "I" (.int (0 : Int32)) := D1 (Or.inl (wi hw 247 rfl)) (ty := .int) (by decide)
  have U_ev : Unt h1 ev := U1
  have lt_ev := E_ev.lt
  have go3 : Go p e below T1 (mkF m 4 #[.val (.ref a1)] [(.ref ev), (.ref ev)]) S0 := by
    intro tt kt
    refine go2 tt ?_
    refine XS.dup X1.here hx rfl (hb hby d50_3) rfl rfl ?_
    exact kt
  obtain ⟨T4, h4, X4, e4, E4, A4, D4, -, st4⟩ := newO X1 hx hZ hown (wi hw 64 rfl) (wi hw 65 rfl) (wi hw 66 rfl) e1 (g := (mkF m 4 #[.val (.ref a1)] [(.ref ev), (.ref ev)])) rfl (hb hby d50_4) (by decide) (by decide)
  obtain ⟨b, g4⟩ : ∃ z, z = h1.size := ⟨_, rfl⟩
  rw [← g4] at A4 D4 st4
  have g_b : n0 ≤ b := Nat.le_trans Z0 (Nat.le_of_eq g4.symm)
  have sz_b : h0.size ≤ b := Nat.le_trans K0.1 (Nat.le_of_eq g4.symm)
  have E_ev := E_ev.ext E4
  have F_cause_ev := F_cause_ev.ext E4
  have F_stackTrace_ev := F_stackTrace_ev.ext E4
  have F_suppressedExceptions_ev := F_suppressedExceptions_ev.ext E4
  have F_detailMessage_ev := F_detailMessage_ev.ext E4
  have F_backtrace_ev := F_backtrace_ev.ext E4
  have F_depth_ev := F_depth_ev.ext E4
  have U_ev := U_ev.ext E4
  have Z0 := Nat.le_trans Z0 E4.1
  have K0 := K0.ext E4
  have go5 : Go p e below T4 (mkF m 7 #[.val (.ref a1)] [(.ref b), (.ref ev), (.ref ev)]) S0 := fun t kt => go3 t (st4 _ kt)
  have E_b := A4
  have F_value_b : Fld Z h4 b "java/lang/AbstractStringBuilder" "value" "[B" .null := D4 (Or.inl (wi hw 79 rfl)) (ty := (.array .byte)) (by decide)
  have F_coder_b : Fld Z h4 b "java/lang/AbstractStringBuilder" "coder" "B" (.int (0 : Int32)) := D4 (Or.inl (wi hw 81 rfl)) (ty := .byte) (by decide)
  have F_count_b : Fld Z h4 b "java/lang/AbstractStringBuilder" "count" "I" (.int (0 : Int32)) := D4 (Or.inl (wi hw 104 rfl)) (ty := .int) (by decide)
  have F_maybeLatin1_b : Fld Z h4 b "java/lang/AbstractStringBuilder" "maybeLatin1" "Z" (.int (0 : Int32)) := D4 (Or.inl (wi hw 322 rfl)) (ty := .boolean) (by decide)
  have ne_ev_b : ev ≠ b := oR lt_ev (Nat.le_of_eq g4.symm)
  have ne_b_ev := ne_ev_b.symm
  have go6 : Go p e below T4 (mkF m 8 #[.val (.ref a1)] [(.ref b), (.ref b), (.ref ev), (.ref ev)]) S0 := by
    intro tt kt
    refine go5 tt ?_
    refine XS.dup X4.here hx rfl (hb hby d50_7) rfl rfl ?_
    exact kt
  obtain ⟨_, _, ⟨T7, L7, k7, n7⟩, -, X7, ⟨Lc7, hQ7, l7, y7, z7⟩, st7⟩ := X4.specialBack hx (y := y27_) rfl hown (mvT hZ (wi hw 67 rfl)) (mvT hZ (wi hw 68 rfl)) (mvT hZ (wi hw 69 rfl)) (by decide) (backOf (W := 3) (rm_sbi l Z a0 hw [] b zc h4 n0 Z0 (oO O0 K0 hn0 all0) hn0 S_CS P5 E_b F_value_b F_coder_b F_count_b F_maybeLatin1_b g_b) hZ (wi hw 69 rfl) (wi hw 66 rfl) (by decide) (by decide)) (g := (mkF m 8 #[.val (.ref a1)] [(.ref b), (.ref b), (.ref ev), (.ref ev)])) rfl (by rw [hml]; rfl) (Steps.refl _) (a := b) (argsL := []) (rest := [(.ref b), (.ref ev), (.ref ev)]) (lenOf pd36_ rfl) rfl (by show 2 * 0 + _ ≤ _; exact Nat.le_of_eq rfl) (hb hby d50_8) (fun _ _ => ⟨rfl, e4, (by decide : 2 + 1 ≤ _), (by decide : 10 + 16 ≤ _)⟩)
  dsimp only [Pt.U, Pt.locs, Pt.cells, Pt.slots] at X7 l7 y7 z7 st7 hQ7
  subst l7 y7 z7
  obtain ⟨v_, kv, rfl, N7q, K7, E_b, F_value_b, F_coder_b, F_count_b, F_maybeLatin1_b, V_v_⟩ := hQ7
  have E_ev := E_ev.keep K7
  have F_cause_ev := F_cause_ev.keep K7 (ninS ne_ev_b nin0)
  have F_stackTrace_ev := F_stackTrace_ev.keep K7 (ninS ne_ev_b nin0)
  have F_suppressedExceptions_ev := F_suppressedExceptions_ev.keep K7 (ninS ne_ev_b nin0)
  have F_detailMessage_ev := F_detailMessage_ev.keep K7 (ninS ne_ev_b nin0)
  have F_backtrace_ev := F_backtrace_ev.keep K7 (ninS ne_ev_b nin0)
  have F_depth_ev := F_depth_ev.keep K7 (ninS ne_ev_b nin0)
  have U_ev := U_ev.keep K7 (ninS ne_ev_b nin0)
  have K0 := K0.trans K7 (allS (Or.inr sz_b) all0)
  have Z0 := Nat.le_trans Z0 K7.1
  have N7 := Fr.app N0 N7q
  have go8 : Go p e below T7 (mkF m 11 #[.val (.ref a1)] [(.ref b), (.ref ev), (.ref ev)]) S0 := fun t kt => go6 t (st7.trans kt)
  have EK := oE K0
  have hk := Nat.le_trans hk EK.1
  have R0 := R0.trans (CHr.ext EK R0.1)
  obtain ⟨pp, T9, h9, k9, b9, c9, X9, e9, E9, hS9, hk9, hZ9, hown9, EX9, CO9, VA9, AR9, -, -, CR9, LI9, NE9, st9⟩ := ldcCH X7 hx hZ hown (wi hw 82 rfl) hstr rfl hS hk hEL (by simp [own_EL]) R0.1 (vs := ((([(109 : Int32), (97 : Int32), (108 : Int32), (102 : Int32), (111 : Int32), (114 : Int32), (109 : Int32), (101 : Int32), (100 : Int32), (32 : Int32), (115 : Int32), (116 : Int32), (97 : Int32), (116 : Int32), (101 : Int32), (58 : Int32), (32 : Int32)] : List Int32).map (fun c => c.toInt8.toInt32)).map Value.int)) (z := (17 : Int32)) (own_text_pp : _ ∧ _) (by decide) rfl (g := (mkF m 11 #[.val (.ref a1)] [(.ref b), (.ref ev), (.ref ev)])) rfl (hb hby d50_11) (n := 68) (by decide +kernel) (by decide) (by decide) (by decide)
  have E_ev := E_ev.ext E9
  have F_cause_ev := F_cause_ev.ext E9
  have F_stackTrace_ev := F_stackTrace_ev.ext E9
  have F_suppressedExceptions_ev := F_suppressedExceptions_ev.ext E9
  have F_detailMessage_ev := F_detailMessage_ev.ext E9
  have F_backtrace_ev := F_backtrace_ev.ext E9
  have F_depth_ev := F_depth_ev.ext E9
  have U_ev := U_ev.ext E9
  have E_b := E_b.ext E9
  have F_value_b := F_value_b.ext E9
  have F_coder_b := F_coder_b.ext E9
  have F_count_b := F_count_b.ext E9
  have F_maybeLatin1_b := F_maybeLatin1_b.ext E9
  have V_v_ := V_v_.ext E9
  have Z0 := Nat.le_trans Z0 E9.1
  have K0 := K0.ext E9
  have R0 := R0.trans CR9
  have go10 : Go p e below T9 (mkF m 13 #[.val (.ref a1)] [(.ref pp), (.ref b), (.ref ev), (.ref ev)]) S0 := fun t kt => go8 t (st9 _ kt)
  have L_pp : Str Z h9 pp [(109 : Int32), (97 : Int32), (108 : Int32), (102 : Int32), (111 : Int32), (114 : Int32), (109 : Int32), (101 : Int32), (100 : Int32), (32 : Int32), (115 : Int32), (116 : Int32), (97 : Int32), (116 : Int32), (101 : Int32), (58 : Int32), (32 : Int32)] := ⟨b9, c9, EX9, CO9, VA9, AR9, by decide, by decide⟩
  have SB1 : Safe Z own_EL T9.vm h9 b := (Safe.exa hZ9.alike E_b (by decide) (by decide))
  have SE1 : Safe Z own_EL T9.vm h9 ev := (Safe.exa hZ9.alike E_ev (by decide) (by decide))
  have ne_pp_b : pp ≠ b := Ne.symm (NE9 b SB1).1
  have ne_t_b : b9 ≠ b := Ne.symm (NE9 b SB1).2
  have EXp := EX9
  have COp := CO9
  have VAp := VA9
  have ARp : Arv Z h9 b9 c9 .byte (Int32.ofNat own_PB.length) own_PB (.int (0 : Int32)) := by rw [own_PBl]; exact oA AR9 own_PBe
  have K1 : Keep h9 h9 [b, ev] := Keep.refl _ _
  have lt_ev := E_ev.lt
  have lt_bb := E_b.lt
  obtain ⟨cq11, kq11, q11a, q11b, q11c⟩ := isOf hZ9 e9 E_b
  obtain ⟨_, _, ⟨T11, L11, k11, n11⟩, -, X11, ⟨Lc11, hQ11, l11, y11, z11⟩, st11⟩ := X9.virtualBack hx (y := y0_) (z := y0_) hown9 (mvT hZ9 (wi hw 83 rfl)) (mvT hZ9 (wi hw 84 rfl)) (notFace_of_selects (args := #[]) (mvT hZ9 (wi hw 86 rfl))) (mvT hZ9 (wi hw 86 rfl)) (mvT hZ9 (wi hw 85 rfl)) (by decide) (backOf (W := 2) (rm_sapp1 l Z a0 hw [] b pp b9 c9 v_ kv zc h9 n0 Z0 (oO O0 K0 hn0 all0) hn0 S_CS P5 E_b F_value_b F_coder_b F_count_b F_maybeLatin1_b EXp COp VAp ARp g_b V_v_ ne_pp_b ne_t_b) hZ9 (wi hw 87 rfl) (wi hw 66 rfl) (by decide) (by decide)) q11a q11c (g := (mkF m 13 #[.val (.ref a1)] [(.ref pp), (.ref b), (.ref ev), (.ref ev)])) rfl (by rw [hml]; rfl) (Steps.refl _) (argsL := [(.ref pp)]) (rest := [(.ref ev), (.ref ev)]) (lenOf pd3_ rfl) rfl (by show 2 * 0 + _ ≤ _; exact Nat.le_of_eq rfl) (hb hby d50_13) (fun _ _ => ⟨rfl, e9, (by decide : 5 + 1 ≤ _), (by decide : 98 + 34 ≤ _)⟩)
  dsimp only [Pt.U, Pt.locs, Pt.cells, Pt.slots] at X11 l11 y11 z11 st11 hQ11
  subst l11 y11 z11
  obtain ⟨u, ku, rfl, N11q, K11, E_b, F_value_b, F_coder_b, F_count_b, F_maybeLatin1_b, V_u, sz_u⟩ := hQ11
  have ne_ev_u : ev ≠ u := oR lt_ev sz_u
  have g_u : n0 ≤ u := Nat.le_trans Z0 sz_u
  have szh_u : h0.size ≤ u := Nat.le_trans K0.1 sz_u
  have szk_u := Nat.le_trans K1.1 sz_u
  have ne_b_u : b ≠ u := oR lt_bb sz_u
  have E_ev := E_ev.keep K11
  have F_cause_ev := F_cause_ev.keep K11 (ninS ne_ev_b nin0)
  have F_stackTrace_ev := F_stackTrace_ev.keep K11 (ninS ne_ev_b nin0)
  have F_suppressedExceptions_ev := F_suppressedExceptions_ev.keep K11 (ninS ne_ev_b nin0)
  have F_detailMessage_ev := F_detailMessage_ev.keep K11 (ninS ne_ev_b nin0)
  have F_backtrace_ev := F_backtrace_ev.keep K11 (ninS ne_ev_b nin0)
  have F_depth_ev := F_depth_ev.keep K11 (ninS ne_ev_b nin0)
  have U_ev := U_ev.keep K11 (ninS ne_ev_b nin0)
  have K0 := K0.trans K11 (allS (Or.inr sz_b) all0)
  have K1 := K1.trans K11 (allS (Or.inl (List.mem_of_getElem? (i := 0) rfl)) all0)
  have Z0 := Nat.le_trans Z0 K11.1
  have N11 := Fr.app N7 N11q
  have go12 : Go p e below T11 (mkF m 16 #[.val (.ref a1)] [(.ref b), (.ref ev), (.ref ev)]) S0 := fun t kt => go10 t (st11.trans kt)
  have go13 : Go p e below T11 (mkF m 17 #[.val (.ref a1)] [(.ref a1), (.ref b), (.ref ev), (.ref ev)]) S0 := by
    intro tt kt
    refine go12 tt ?_
    refine XS.aloadN X11.here hx rfl (hb hby d50_16) rfl rfl ?_
    exact kt
  have EK2 := oE K0
  by_cases hq : own_q cs = true
  · rw [own_k, if_pos hq] at C_a1
    rw [own_b, if_pos hq] at A_t
    obtain ⟨cq14, kq14, q14a, q14b, q14c⟩ := isOf hZ9 rfl E_b
    obtain ⟨_, _, ⟨T14, L14, k14, n14⟩, -, X14, ⟨Lc14, hQ14, l14, y14, z14⟩, st14⟩ := X11.virtualBack hx (y := y0_) (z := y0_) hown9 (mvT hZ9 (wi hw 83 rfl)) (mvT hZ9 (wi hw 84 rfl)) (notFace_of_selects (args := #[]) (mvT hZ9 (wi hw 86 rfl))) (mvT hZ9 (wi hw 86 rfl)) (mvT hZ9 (wi hw 85 rfl)) (by decide) (backOf (W := 2) (rm_sapp0 l Z a0 hw [] b a1 t kt u ku cs.length (own_la cs) zc T11.heap n0 Z0 (oO O0 K0 hn0 all0) hn0 S_CS P5 E_b F_value_b F_coder_b F_count_b F_maybeLatin1_b (E_a1.ext EK2) (C_a1.ext EK2) (V_a1.ext EK2) (A_t.ext EK2) g_b g_u V_u (oR lt_a1 sz_b) (oR lt_t sz_b) (oR lt_a1 szh_u) (oR lt_t szh_u) ne_b_u (by omega) (own_la_len cs)) hZ9 (wi hw 87 rfl) (wi hw 66 rfl) (by decide) (by decide)) q14a q14c (g := (mkF m 17 #[.val (.ref a1)] [(.ref a1), (.ref b), (.ref ev), (.ref ev)])) rfl (by rw [hml]; rfl) (Steps.refl _) (argsL := [(.ref a1)]) (rest := [(.ref ev), (.ref ev)]) (lenOf pd3_ rfl) rfl (by show 2 * 0 + _ ≤ _; exact Nat.le_of_eq rfl) (hb hby d50_17) (fun _ _ => ⟨rfl, rfl, (by decide : 6 + 0 ≤ _), (by decide : 132 + 0 ≤ _)⟩)
    dsimp only [Pt.U, Pt.locs, Pt.cells, Pt.slots] at X14 l14 y14 z14 st14 hQ14
    subst l14 y14 z14
    obtain ⟨rfl, N14q, K14, E_b, F_value_b, F_coder_b, F_count_b, F_maybeLatin1_b, V_u⟩ := hQ14
    have E_ev := E_ev.keep K14
    have F_cause_ev := F_cause_ev.keep K14 (ninS ne_ev_b (ninS ne_ev_u nin0))
    have F_stackTrace_ev := F_stackTrace_ev.keep K14 (ninS ne_ev_b (ninS ne_ev_u nin0))
    have F_suppressedExceptions_ev := F_suppressedExceptions_ev.keep K14 (ninS ne_ev_b (ninS ne_ev_u nin0))
    have F_detailMessage_ev := F_detailMessage_ev.keep K14 (ninS ne_ev_b (ninS ne_ev_u nin0))
    have F_backtrace_ev := F_backtrace_ev.keep K14 (ninS ne_ev_b (ninS ne_ev_u nin0))
    have F_depth_ev := F_depth_ev.keep K14 (ninS ne_ev_b (ninS ne_ev_u nin0))
    have U_ev := U_ev.keep K14 (ninS ne_ev_b (ninS ne_ev_u nin0))
    have K0 := K0.trans K14 (allS (Or.inr sz_b) (allS (Or.inr szh_u) all0))
    have K1 := K1.trans K14 (allS (Or.inl (List.mem_of_getElem? (i := 0) rfl)) (allS (Or.inr szk_u) all0))
    have Z0 := Nat.le_trans Z0 K14.1
    have N14 := Fr.app N11 N14q
    have go15 : Go p e below T14 (mkF m 20 #[.val (.ref a1)] [(.ref b), (.ref ev), (.ref ev)]) S0 := fun t kt => go13 t (st14.trans kt)
    have lt_ev := E_ev.lt
    obtain ⟨cq16, kq16, q16a, q16b, q16c⟩ := isOf hZ9 rfl E_b
    obtain ⟨_, _, ⟨T16, L16, k16, n16⟩, -, X16, ⟨Lc16, hQ16, l16, y16, z16⟩, st16⟩ := X14.virtualBack hx (y := y5_) (z := y5_) hown9 (mvT hZ9 (wi hw 153 rfl)) (mvT hZ9 (wi hw 154 rfl)) (notFace_of_selects (args := #[]) (mvT hZ9 (wi hw 156 rfl))) (mvT hZ9 (wi hw 156 rfl)) (mvT hZ9 (wi hw 155 rfl)) (by decide) (backOf (W := 2) (rm_ts0 l Z a0 hw [] b u ku (17 + cs.length) 34 (own_DL (own_la cs)) zc T14.heap n0 Z0 (oO O0 K0 hn0 all0) hn0 S_CS P5 E_b F_value_b F_coder_b F_count_b F_maybeLatin1_b V_u (own_lenL _ (by rw [own_la_len]; omega)) (by omega) (by omega) (by decide)) hZ9 (wi hw 157 rfl) (wi hw 66 rfl) (by decide) (by decide)) q16a q16c (g := (mkF m 20 #[.val (.ref a1)] [(.ref b), (.ref ev), (.ref ev)])) rfl (by rw [hml]; rfl) (Steps.refl _) (argsL := []) (rest := [(.ref ev), (.ref ev)]) (lenOf pd13_ rfl) rfl (by show 2 * 0 + _ ≤ _; exact Nat.le_of_eq rfl) (hb hby d50_20) (fun _ _ => ⟨rfl, rfl, (by decide : 6 + 2 ≤ _), (by decide : 132 + 46 ≤ _)⟩)
    dsimp only [Pt.U, Pt.locs, Pt.cells, Pt.slots] at X16 l16 y16 z16 st16 hQ16
    subst l16 y16 z16
    obtain ⟨s_, rfl, N16q, E16, sz_s, B_m⟩ := hQ16
    have K1 := K1.ext E16
    have ne_s_ev : s_ ≠ ev := oL lt_ev sz_s
    obtain ⟨tm, km, sz_t, EXm, COm, VAm, ARm⟩ := B_m
    have ne_t_ev : tm ≠ ev := oL lt_ev sz_t
    have E_ev := E_ev.ext E16
    have F_cause_ev := F_cause_ev.ext E16
    have F_stackTrace_ev := F_stackTrace_ev.ext E16
    have F_suppressedExceptions_ev := F_suppressedExceptions_ev.ext E16
    have F_detailMessage_ev := F_detailMessage_ev.ext E16
    have F_backtrace_ev := F_backtrace_ev.ext E16
    have F_depth_ev := F_depth_ev.ext E16
    have U_ev := U_ev.ext E16
    have Z0 := Nat.le_trans Z0 E16.1
    have K0 := K0.ext E16
    have N16 := Fr.app N14 N16q
    have go17 : Go p e below T16 (mkF m 23 #[.val (.ref a1)] [(.ref s_), (.ref ev), (.ref ev)]) S0 := fun t kt => go15 t (st16.trans kt)
    obtain ⟨_, _, ⟨T18, L18, k18, n18⟩, -, X18, ⟨Lc18, hQ18, l18, y18, z18⟩, st18⟩ := X16.specialBack hx (y := y24_) rfl hown9 (mvT hZ9 (wi hw 192 rfl)) (mvT hZ9 (wi hw 193 rfl)) (mvT hZ9 (wi hw 194 rfl)) (by decide) (backOfKL (W := 1) (rm_iae l Z a0 hw [] ev s_ ua sa T16.heap n0 Z0 (oO O0 K0 hn0 all0) hn0 S_UN S_SP hl E_ev U_ev g_ev F_cause_ev F_stackTrace_ev F_suppressedExceptions_ev F_backtrace_ev F_detailMessage_ev) hZ9 (wi hw 194 rfl) (wi hw 63 rfl) (by decide) (by decide) (Vm.MethodsKnown.alikeC hS9.1.alike hK.1) (Vm.FramesKnown.alikeC hS9.1.alike hK.2)) (g := (mkF m 23 #[.val (.ref a1)] [(.ref s_), (.ref ev), (.ref ev)])) rfl (by rw [hml]; rfl) (Steps.refl _) (a := ev) (argsL := [(.ref s_)]) (rest := [(.ref ev)]) (lenOf pd11_ rfl) rfl (by show 2 * 0 + _ ≤ _; exact Nat.le_of_eq rfl) (hb hby d50_23) (fun _ _ => ⟨rfl, rfl, (by decide : 8 + 1 ≤ _), (by decide : 178 + 2752 ≤ _)⟩)
    dsimp only [Pt.U, Pt.locs, Pt.cells, Pt.slots] at X18 l18 y18 z18 st18 hQ18
    subst l18 y18 z18
    obtain ⟨rfl, N18q, K18, E18, U18, Fm18, Fc18⟩ := hQ18
    have Z0 := Nat.le_trans Z0 K18.1
    have N18 := Fr.app N16 N18q
    have go19 : Go p e below T18 (mkF m 26 #[.val (.ref a1)] [(.ref ev)]) S0 := fun t kt => go17 t (st18.trans kt)
    have KE := K18
    have K0 := K0.trans KE (allS (Or.inr sz_ev) all0)
    have K1 := K1.trans KE (allS (Or.inl (List.mem_of_getElem? (i := 1) rfl)) all0)
    have R0 := R0.trans (CHr.keep K1 (allS SB1 (allS SE1 all0)) R0.1)
    have hk9 := Nat.le_trans hk9 K1.1
    have BM : Bs Z T18.heap s_ (own_k (own_P ++ cs)) (own_b (own_P ++ cs)) := by
      rw [own_kP, own_bP, own_k, own_b, if_pos hq, if_pos hq, if_pos hq, show own_PB ++ own_la cs = (own_DL (own_la cs)).take (17 + cs.length) from by rw [← own_la_len cs]; exact (own_tkL _).symm]
      exact ⟨tm, km, EXm.keep KE, COm.keep KE (ninS ne_s_ev nin0), VAm.keep KE (ninS ne_s_ev nin0), ARm.keep KE (ninS ne_t_ev nin0)⟩
    obtain ⟨fs, hr, hrun, hended, hend⟩ := X18.leaveW hS9 (hk9) (v := some (.ref ev)) (fun h => by rw [Bd.returns] at h; cases h)
    refine ⟨_, _, go19 _ ?_, hrun, hended, _, _, rfl, ?_, (by rw [hh]; show CHr Z own_EL s.vm h0 T18.vm T18.heap; exact R0.trans (CHv.at X18 hZ9 hEL R0.1)), hend.1, hend.2.1, hend.2.2.1, hend.2.2.2.mono (by decide) (by decide)⟩
    · show Steps p.tables e below (T18.setTop (mkF m 26 #[.val (.ref a1)] [(.ref ev)])) _
      jvm_step X18.here [X18.here.top, hx, (hb hby d50_26), X18.method', Bd.returns, Value.isRef, FieldType.isReference]
      first | (intro acts; rw [hr _ acts rfl rfl rfl]) | rw [hr _ _ rfl rfl rfl]
      exact Steps.refl _
    · show Q_rm_mal Z a1 cs fm zc ua sa h0 n0 _ T18.heap _
      exact ⟨ev, s_, rfl, N18, oE K0, E18, U18, Fm18, Fc18, BM⟩
  · rw [own_k, if_neg hq] at C_a1
    rw [own_b, if_neg hq] at A_t
    have hc1 : cs.length ≠ 0 := fun z => hq (by rw [List.length_eq_zero_iff.mp z]; rfl)
    obtain ⟨cq20, kq20, q20a, q20b, q20c⟩ := isOf hZ9 rfl E_b
    obtain ⟨_, _, ⟨T20, L20, k20, n20⟩, -, X20, ⟨Lc20, hQ20, l20, y20, z20⟩, st20⟩ := X11.virtualBack hx (y := y0_) (z := y0_) hown9 (mvT hZ9 (wi hw 83 rfl)) (mvT hZ9 (wi hw 84 rfl)) (notFace_of_selects (args := #[]) (mvT hZ9 (wi hw 86 rfl))) (mvT hZ9 (wi hw 86 rfl)) (mvT hZ9 (wi hw 85 rfl)) (by decide) (backOf (W := 2) (rm_sappU l Z a0 hw [] b a1 t kt u ku cs.length (own_u16 cs) fm zc T11.heap n0 Z0 (oO O0 K0 hn0 all0) hn0 S_CS P5 S_AD S_HI S_LO S_SI rf E_b F_value_b F_coder_b F_count_b F_maybeLatin1_b (E_a1.ext EK2) (C_a1.ext EK2) (V_a1.ext EK2) (A_t.ext EK2) g_b V_u (oR lt_a1 sz_b) (oR lt_t sz_b) (by omega) (own_u16_len cs)) hZ9 (wi hw 87 rfl) (wi hw 66 rfl) (by decide) (by decide)) q20a q20c (g := (mkF m 17 #[.val (.ref a1)] [(.ref a1), (.ref b), (.ref ev), (.ref ev)])) rfl (by rw [hml]; rfl) (Steps.refl _) (argsL := [(.ref a1)]) (rest := [(.ref ev), (.ref ev)]) (lenOf pd3_ rfl) rfl (by show 2 * 0 + _ ≤ _; exact Nat.le_of_eq rfl) (hb hby d50_17) (fun _ _ => ⟨rfl, rfl, (by decide : 6 + 1 ≤ _), (by decide : 132 + 68 ≤ _)⟩)
    dsimp only [Pt.U, Pt.locs, Pt.cells, Pt.slots] at X20 l20 y20 z20 st20 hQ20
    subst l20 y20 z20
    obtain ⟨r, kr, rfl, N20q, K20, E_b, F_value_b, F_coder_b, F_count_b, F_maybeLatin1_b, V_r⟩ := hQ20
    have E_ev := E_ev.keep K20
    have F_cause_ev := F_cause_ev.keep K20 (ninS ne_ev_b nin0)
    have F_stackTrace_ev := F_stackTrace_ev.keep K20 (ninS ne_ev_b nin0)
    have F_suppressedExceptions_ev := F_suppressedExceptions_ev.keep K20 (ninS ne_ev_b nin0)
    have F_detailMessage_ev := F_detailMessage_ev.keep K20 (ninS ne_ev_b nin0)
    have F_backtrace_ev := F_backtrace_ev.keep K20 (ninS ne_ev_b nin0)
    have F_depth_ev := F_depth_ev.keep K20 (ninS ne_ev_b nin0)
    have U_ev := U_ev.keep K20 (ninS ne_ev_b nin0)
    have K0 := K0.trans K20 (allS (Or.inr sz_b) all0)
    have K1 := K1.trans K20 (allS (Or.inl (List.mem_of_getElem? (i := 0) rfl)) all0)
    have Z0 := Nat.le_trans Z0 K20.1
    have N20 := Fr.app N11 N20q
    have go21 : Go p e below T20 (mkF m 20 #[.val (.ref a1)] [(.ref b), (.ref ev), (.ref ev)]) S0 := fun t kt => go13 t (st20.trans kt)
    have lt_ev := E_ev.lt
    obtain ⟨cq22, kq22, q22a, q22b, q22c⟩ := isOf hZ9 rfl E_b
    obtain ⟨_, _, ⟨T22, L22, k22, n22⟩, -, X22, ⟨Lc22, hQ22, l22, y22, z22⟩, st22⟩ := X20.virtualBack hx (y := y5_) (z := y5_) hown9 (mvT hZ9 (wi hw 153 rfl)) (mvT hZ9 (wi hw 154 rfl)) (notFace_of_selects (args := #[]) (mvT hZ9 (wi hw 156 rfl))) (mvT hZ9 (wi hw 156 rfl)) (mvT hZ9 (wi hw 155 rfl)) (by decide) (backOf (W := 2) (rm_ts1 l Z a0 hw [] b r kr (17 + cs.length) 68 (own_DU (own_u16 cs)) zc T20.heap n0 Z0 (oO O0 K0 hn0 all0) hn0 S_CS P5 E_b F_value_b F_coder_b F_count_b F_maybeLatin1_b V_r (own_lenU _ (by rw [own_u16_len]; omega)) (by omega) (by omega) (by decide)) hZ9 (wi hw 157 rfl) (wi hw 66 rfl) (by decide) (by decide)) q22a q22c (g := (mkF m 20 #[.val (.ref a1)] [(.ref b), (.ref ev), (.ref ev)])) rfl (by rw [hml]; rfl) (Steps.refl _) (argsL := []) (rest := [(.ref ev), (.ref ev)]) (lenOf pd13_ rfl) rfl (by show 2 * 0 + _ ≤ _; exact Nat.le_of_eq rfl) (hb hby d50_20) (fun _ _ => ⟨rfl, rfl, (by decide : 7 + 2 ≤ _), (by decide : 200 + 46 ≤ _)⟩)
    dsimp only [Pt.U, Pt.locs, Pt.cells, Pt.slots] at X22 l22 y22 z22 st22 hQ22
    subst l22 y22 z22
    obtain ⟨s_, rfl, N22q, E22, sz_s, B_m⟩ := hQ22
    have K1 := K1.ext E22
    have ne_s_ev : s_ ≠ ev := oL lt_ev sz_s
    obtain ⟨tm, km, sz_t, EXm, COm, VAm, ARm⟩ := B_m
    have ne_t_ev : tm ≠ ev := oL lt_ev sz_t
    have E_ev := E_ev.ext E22
    have F_cause_ev := F_cause_ev.ext E22
    have F_stackTrace_ev := F_stackTrace_ev.ext E22
    have F_suppressedExceptions_ev := F_suppressedExceptions_ev.ext E22
    have F_detailMessage_ev := F_detailMessage_ev.ext E22
    have F_backtrace_ev := F_backtrace_ev.ext E22
    have F_depth_ev := F_depth_ev.ext E22
    have U_ev := U_ev.ext E22
    have Z0 := Nat.le_trans Z0 E22.1
    have K0 := K0.ext E22
    have N22 := Fr.app N20 N22q
    have go23 : Go p e below T22 (mkF m 23 #[.val (.ref a1)] [(.ref s_), (.ref ev), (.ref ev)]) S0 := fun t kt => go21 t (st22.trans kt)
    obtain ⟨_, _, ⟨T24, L24, k24, n24⟩, -, X24, ⟨Lc24, hQ24, l24, y24, z24⟩, st24⟩ := X22.specialBack hx (y := y24_) rfl hown9 (mvT hZ9 (wi hw 192 rfl)) (mvT hZ9 (wi hw 193 rfl)) (mvT hZ9 (wi hw 194 rfl)) (by decide) (backOfKL (W := 1) (rm_iae l Z a0 hw [] ev s_ ua sa T22.heap n0 Z0 (oO O0 K0 hn0 all0) hn0 S_UN S_SP hl E_ev U_ev g_ev F_cause_ev F_stackTrace_ev F_suppressedExceptions_ev F_backtrace_ev F_detailMessage_ev) hZ9 (wi hw 194 rfl) (wi hw 63 rfl) (by decide) (by decide) (Vm.MethodsKnown.alikeC hS9.1.alike hK.1) (Vm.FramesKnown.alikeC hS9.1.alike hK.2)) (g := (mkF m 23 #[.val (.ref a1)] [(.ref s_), (.ref ev), (.ref ev)])) rfl (by rw [hml]; rfl) (Steps.refl _) (a := ev) (argsL := [(.ref s_)]) (rest := [(.ref ev)]) (lenOf pd11_ rfl) rfl (by show 2 * 0 + _ ≤ _; exact Nat.le_of_eq rfl) (hb hby d50_23) (fun _ _ => ⟨rfl, rfl, (by decide : 9 + 1 ≤ _), (by decide : 246 + 2752 ≤ _)⟩)
    dsimp only [Pt.U, Pt.locs, Pt.cells, Pt.slots] at X24 l24 y24 z24 st24 hQ24
    subst l24 y24 z24
    obtain ⟨rfl, N24q, K24, E24, U24, Fm24, Fc24⟩ := hQ24
    have Z0 := Nat.le_trans Z0 K24.1
    have N24 := Fr.app N22 N24q
    have go25 : Go p e below T24 (mkF m 26 #[.val (.ref a1)] [(.ref ev)]) S0 := fun t kt => go23 t (st24.trans kt)
    have KE := K24
    have K0 := K0.trans KE (allS (Or.inr sz_ev) all0)
    have K1 := K1.trans KE (allS (Or.inl (List.mem_of_getElem? (i := 1) rfl)) all0)
    have R0 := R0.trans (CHr.keep K1 (allS SB1 (allS SE1 all0)) R0.1)
    have hk9 := Nat.le_trans hk9 K1.1
    have BM : Bs Z T24.heap s_ (own_k (own_P ++ cs)) (own_b (own_P ++ cs)) := by
      rw [own_kP, own_bP, own_k, own_b, if_neg hq, if_neg hq, if_neg hq, show own_PU ++ own_u16 cs = (own_DU (own_u16 cs)).take (2 * (17 + cs.length)) from (own_tkU _ _ (by rw [own_u16_len]; omega)).symm]
      exact ⟨tm, km, EXm.keep KE, COm.keep KE (ninS ne_s_ev nin0), VAm.keep KE (ninS ne_s_ev nin0), ARm.keep KE (ninS ne_t_ev nin0)⟩
    obtain ⟨fs, hr, hrun, hended, hend⟩ := X24.leaveW hS9 (hk9) (v := some (.ref ev)) (fun h => by rw [Bd.returns] at h; cases h)
    refine ⟨_, _, go25 _ ?_, hrun, hended, _, _, rfl, ?_, (by rw [hh]; show CHr Z own_EL s.vm h0 T24.vm T24.heap; exact R0.trans (CHv.at X24 hZ9 hEL R0.1)), hend.1, hend.2.1, hend.2.2.1, hend.2.2.2.mono (by decide) (by decide)⟩
    · show Steps p.tables e below (T24.setTop (mkF m 26 #[.val (.ref a1)] [(.ref ev)])) _
      jvm_step X24.here [X24.here.top, hx, (hb hby d50_26), X24.method', Bd.returns, Value.isRef, FieldType.isReference]
      first | (intro acts; rw [hr _ acts rfl rfl rfl]) | rw [hr _ _ rfl rfl rfl]
      exact Steps.refl _
    · show Q_rm_mal Z a1 cs fm zc ua sa h0 n0 _ T24.heap _
      exact ⟨ev, s_, rfl, N24, oE K0, E24, U24, Fm24, Fc24, BM⟩
theorem own_safe {Z : State} {EL : List (String × Nat)} {vm : Vm} {h : Heap} {x : Addr} (hal : Z.vm.Alike vm) (E : Exa Z h x "java/lang/String") (F : Fld Z h x "java/lang/String" "value" "[B" .null) : Safe Z EL vm h x := fun B => by
  obtain ⟨p, -, u, a, -, q, -, S, hy⟩ := B
  obtain ⟨cell, cf, k, i, f, h1, h2, -, -, -, -, h7⟩ := F
  obtain ⟨cell', k', g1, g2, -⟩ := E
  cases h1.symm.trans g1
  rcases hy with rfl | rfl
  · have ha : h[q.sa]? = some q.sC := S.ha
    cases ha.symm.trans h1
    obtain ⟨cS, ⟨⟨-, -, -, ⟨c1, k1, i1, f1, -⟩, -, -, -, v1, -⟩, -⟩, -⟩ := S
    obtain ⟨k3, e3⟩ := ff_back (U := Wst Z vm h) hal f1
    cases h2.symm.trans e3
    rw [v1] at h7; cases h7
  · have hd : h[q.sd]? = some q.SA := S.hd
    cases hd.symm.trans h1
    obtain ⟨cS, -, -, hB, -⟩ := S
    have hB : vm.findClass "[B" = some q.SA.cls := hB
    rw [hal.findClass] at hB
    obtain ⟨k1, a1, a2⟩ := Vm.findClass_spec hB
    obtain ⟨k2, b1, b2⟩ := Vm.findClass_spec g2
    cases a1.symm.trans b1
    exact absurd (a2.symm.trans b2) (by decide)
theorem efj_rm_new4 (m : MethodId) (a1 : Addr) (a2 : Addr) : entryFrame m #[(.ref a1), (.ref a2), (.int (0 : Int32)), (.int (0 : Int32)), .null] 6 = mkF m 0 #[.val (.ref a1), .val (.ref a2), .val (.int (0 : Int32)), .val (.int (0 : Int32)), .val .null, .unset] [] := by first | (simp [entryFrame, mkF, argsToLocals, Value.category]; done) | rfl
theorem d9_8 : Dc c5 8 (.aload_n 0) 1 := by decide +kernel
theorem d9_9 : Dc c5 9 (.ldc 7) 2 := by decide +kernel
theorem d9_11 : Dc c5 11 (.getfield 9) 3 := by decide +kernel
theorem d9_14 : Dc c5 14 (.putfield 9) 3 := by decide +kernel
theorem d9_17 : Dc c5 17 (.aload_n 0) 1 := by decide +kernel
theorem d9_18 : Dc c5 18 (.ldc 7) 2 := by decide +kernel
theorem d9_20 : Dc c5 20 (.getfield 15) 3 := by decide +kernel
theorem d9_23 : Dc c5 23 (.putfield 15) 3 := by decide +kernel
theorem d9_26 : Dc c5 26 (.return_) 1 := by decide +kernel
def Q_rm_new4 (Z : State) (a1 : Addr) (a2 : Addr) (h0 : Heap) (n0 : Nat) (v : Option Value) (h : Heap) (L : List Loc) : Prop := v = none ∧ Fr n0 L ∧ Keep h0 h [a1] ∧ Bs Z h a1 (0 : Int32) []
theorem rm_new4 (l : Launch) (Z : State) (a0 : Array Value) (hw : ∀ d ∈ tables_1, d.before a0 Z = true) (ws : List Jvm.Cond) (a1 : Addr) (a2 : Addr) (h0 : Heap) (n0 : Nat) (Z0 : n0 ≤ h0.size) (E_a1 : Exa Z h0 a1 "java/lang/String") (F_value_a1 : Fld Z h0 a1 "java/lang/String" "value" "[B" .null) (F_coder_a1 : Fld Z h0 a1 "java/lang/String" "coder" "B" (.int (0 : Int32))) (g_a1 : n0 ≤ a1) (hEL : EW Z a0 own_EL) :
    MetFree l y10_ (head1 (Jvm.Cond.code y10_ jdk_42_method_149_code 6 none :: ws) ({ frames := 1, cells := 2, slots := 4, locals := 12 } : Room)) (fun a U => a = #[(.ref a1), (.ref a2), (.int (0 : Int32)), (.int (0 : Int32)), .null] ∧ Z.Warmed39 U.vm ∧ U.heap = h0 ∧ CHv Z own_EL U.vm h0) (fun _ _ _ _ _ => True) (fun _ U o U' => ∃ v L, o = .returned v ∧ Q_rm_new4 Z a1 a2 h0 n0 v U'.heap L ∧ CHr Z own_EL U.vm U.heap U'.vm U'.heap ∧ ReturnedEndW U o U' L ({ frames := 1, cells := 2, slots := 4, locals := 12 } : Room).cells ({ frames := 1, cells := 2, slots := 4, locals := 12 } : Room).slots) := by
  refine MetFree.of_bodySF (plainFor_of_name pnj_9) hisR ?_
  intro p e s m args below meth c s₁ Bd hml0 hP hK
  obtain ⟨rfl, hZ, hh, CH⟩ := hP
  have hx := Bd.exec
  have hby := Bd.bytes
  have hml : c.maxLocals = 6 := hml0
  have hown : s.vm.findClass "java/lang/String" = some m.cls := findClass_of_methodNamed Bd.named
  have hnm := (name_of_methodNamed Bd.named Bd.method).1
  have X0 : Stand p l e ({ frames := 1, cells := 2, slots := 4, locals := 12 } : Room) s m #[(.ref a1), (.ref a2), (.int (0 : Int32)), (.int (0 : Int32)), .null] below meth c s₁ [] 0 0 := Stand.of_body Bd
  have e0 : s₁.heap = h0 := by rw [← hh, Bd.state]; rfl
  have N0 := Fr.nil n0
  have go0 : Go p e below s₁ (mkF m 0 #[.val (.ref a1), .val (.ref a2), .val (.int (0 : Int32)), .val (.int (0 : Int32)), .val .null, .unset] []) (s₁.setTop (entryFrame m #[(.ref a1), (.ref a2), (.int (0 : Int32)), (.int (0 : Int32)), .null] 6)) := fun t k => castTop (efj_rm_new4 m a1 a2) k
  generalize (s₁.setTop (entryFrame m #[(.ref a1), (.ref a2), (.int (0 : Int32)), (.int (0 : Int32)), .null] 6)) = S0 at go0 ⊢
  have hS : s.Since s.vm s.heap.size := own_since s
  have hk : s.heap.size ≤ h0.size := by rw [← hh]; exact Nat.le_refl _
  have X0 : Stand p l e _ (s.setVm s.vm) m _ below meth c s₁ [] 0 0 := X0
  have hZ : Z.Warmed39 (s.setVm s.vm).vm := hZ
  have hown : (s.setVm s.vm).vm.findClass "java/lang/String" = some m.cls := hown
  have R0 : CHr Z own_EL s.vm h0 s.vm h0 := CHr.refl CH
  have hstr : ∀ d ∈ Bundle.stringAtoms, d.before a0 Z = true := fun d hd => hw d (own_strAtoms d hd)
  have K0 : Keep h0 h0 [a1] := Keep.refl h0 [a1]
  have Sa := own_safe (EL := own_EL) hZ.alike E_a1 F_value_a1
  have go1 : Go p e below s₁ (mkF m 1 #[.val (.ref a1), .val (.ref a2), .val (.int (0 : Int32)), .val (.int (0 : Int32)), .val .null, .unset] [(.ref a1)]) S0 := by
    intro tt kt
    refine go0 tt ?_
    refine XS.aloadN X0.here hx rfl (hb hby d9_0) rfl rfl ?_
    exact kt
  obtain ⟨T2, X2, e2, st2⟩ := initO X0 hx hZ hown (wi hw 12 rfl) (wi hw 13 rfl) (wi hw 14 rfl) e0 (g := (mkF m 1 #[.val (.ref a1), .val (.ref a2), .val (.int (0 : Int32)), .val (.int (0 : Int32)), .val .null, .unset] [(.ref a1)])) rfl (by rw [hml]; rfl) rfl (hb hby d9_1) (by decide) (W := 0) (by show 2 * 0 + _ ≤ _; exact Nat.le_of_eq rfl) (by decide)
  have go3 : Go p e below T2 (mkF m 4 #[.val (.ref a1), .val (.ref a2), .val (.int (0 : Int32)), .val (.int (0 : Int32)), .val .null, .unset] []) S0 := fun t kt => go1 t (st2 _ kt)
  have lt_a1 := E_a1.lt
  have go4 : Go p e below T2 (mkF m 9 #[.val (.ref a1), .val (.ref a2), .val (.int (0 : Int32)), .val (.int (0 : Int32)), .val .null, .unset] [(.ref a1)]) S0 := by
    intro tt kt
    refine go3 tt ?_
    refine XS.iloadN X2.here hx rfl (hb hby d9_4) rfl ?_
    refine XS.ifNo X2.here hx rfl (hb hby d9_5) rfl ((if0 _ _).trans (teq (rfl : (0 : Int32) = (0 : Int32))).2) ?_
    refine XS.aloadN X2.here hx rfl (hb hby d9_8) rfl rfl ?_
    exact kt
  obtain ⟨e1, T5, h5, k5, b5, c5, X5, e5, E5, hS5, hk5, hZ5, hown5, EX5, CO5, VA5, AR5, -, -, CR5, LI5, NE5, st5⟩ := ldcCH X2 hx hZ hown (wi hw 15 rfl) hstr e2 hS hk hEL (by simp [own_EL]) R0.1 (vs := ((([] : List Int32).map (fun c => c.toInt8.toInt32)).map Value.int)) (z := (0 : Int32)) (own_text_e1 : _ ∧ _) (by decide) rfl (g := (mkF m 9 #[.val (.ref a1), .val (.ref a2), .val (.int (0 : Int32)), .val (.int (0 : Int32)), .val .null, .unset] [(.ref a1)])) rfl (hb hby d9_9) (n := 0) (by decide +kernel) (by decide) (by decide) (by decide)
  have E_a1 := E_a1.ext E5
  have F_value_a1 := F_value_a1.ext E5
  have F_coder_a1 := F_coder_a1.ext E5
  have Z0 := Nat.le_trans Z0 E5.1
  have K0 := K0.ext E5
  have R0 := R0.trans CR5
  have go6 : Go p e below T5 (mkF m 11 #[.val (.ref a1), .val (.ref a2), .val (.int (0 : Int32)), .val (.int (0 : Int32)), .val .null, .unset] [(.ref e1), (.ref a1)]) S0 := fun t kt => go4 t (st5 _ kt)
  have L_e1 : Str Z h5 e1 [] := ⟨b5, c5, EX5, CO5, VA5, AR5, by decide, by decide⟩
  have Sa := CR5.safe lt_a1 Sa
  have ne_e1_a1 : e1 ≠ a1 := Ne.symm (NE5 a1 Sa).1
  have ne_b5_a1 : b5 ≠ a1 := Ne.symm (NE5 a1 Sa).2
  obtain ⟨T7, X7, e7, st7⟩ := getF X5 hx hZ5 hown5 (host := "") (Or.inl (wi hw 21 rfl)) Via.refl e5 VA5 (g := (mkF m 11 #[.val (.ref a1), .val (.ref a2), .val (.int (0 : Int32)), .val (.int (0 : Int32)), .val .null, .unset] [(.ref e1), (.ref a1)])) rfl rfl (hb hby d9_11)
  have go8 : Go p e below T7 (mkF m 14 #[.val (.ref a1), .val (.ref a2), .val (.int (0 : Int32)), .val (.int (0 : Int32)), .val .null, .unset] [(.ref b5), (.ref a1)]) S0 := fun t kt => go6 t (st7 _ kt)
  obtain ⟨T9, h9, X9, e9, W9, st9⟩ := putF X7 hx hZ5 hown5 (host := "") (Or.inl (wi hw 21 rfl)) Via.refl e7 F_value_a1 E_a1 (Or.inr ⟨(wi hw 17 rfl), rfl, hnm⟩) (wi hw 3 rfl) (ty := (.array .byte)) (by decide) rfl rfl (g := (mkF m 14 #[.val (.ref a1), .val (.ref a2), .val (.int (0 : Int32)), .val (.int (0 : Int32)), .val .null, .unset] [(.ref b5), (.ref a1)])) rfl rfl (hb hby d9_14)
  have E_a1 := E_a1.wr W9
  have F_coder_a1 := F_coder_a1.other W9 (Or.inr (slot_ne (Or.inr (wi hw 18 rfl)) (Or.inr (wi hw 17 rfl)) (by decide) (t := .byte) (t' := (.array .byte)) (by decide) (by decide)))
  have VA5 := VA5.other W9 (Or.inl ne_e1_a1)
  have CO5 := CO5.other W9 (Or.inl ne_e1_a1)
  have AR5 := AR5.other W9 ne_b5_a1
  have F_value_a1 := F_value_a1.same W9
  have Z0 := Nat.le_trans Z0 (Keep.of_wr W9).1
  have K0 := K0.wr W9 (Or.inl (List.mem_of_getElem? (i := 0) rfl))
  have hk5 := Nat.le_trans hk5 (Keep.of_wr W9).1
  have Sold := Sa
  have Sa := Safe.wr W9 Sold R0.1 Sold
  have R0 := R0.trans (CHr.wr W9 Sold R0.1)
  have N9r := Fr.snoc X9 N0 g_a1
  have go10 : Go p e below T9 (mkF m 17 #[.val (.ref a1), .val (.ref a2), .val (.int (0 : Int32)), .val (.int (0 : Int32)), .val .null, .unset] []) S0 := fun t kt => go8 t (st9 _ kt)
  have go11 : Go p e below T9 (mkF m 20 #[.val (.ref a1), .val (.ref a2), .val (.int (0 : Int32)), .val (.int (0 : Int32)), .val .null, .unset] [(.ref e1), (.ref a1)]) S0 := by
    intro tt kt
    refine go10 tt ?_
    refine XS.aloadN X9.here hx rfl (hb hby d9_17) rfl rfl ?_
    refine ldcAgain X9 hx hZ5 hown5 (wi hw 15 rfl) LI5 (g := (mkF m 18 #[.val (.ref a1), .val (.ref a2), .val (.int (0 : Int32)), .val (.int (0 : Int32)), .val .null, .unset] [(.ref a1)])) rfl (hb hby d9_18) _ ?_
    exact kt
  obtain ⟨T12, X12, e12, st12⟩ := getF X9 hx hZ5 hown5 (host := "") (Or.inl (wi hw 22 rfl)) Via.refl e9 CO5 (g := (mkF m 20 #[.val (.ref a1), .val (.ref a2), .val (.int (0 : Int32)), .val (.int (0 : Int32)), .val .null, .unset] [(.ref e1), (.ref a1)])) rfl rfl (hb hby d9_20)
  have go13 : Go p e below T12 (mkF m 23 #[.val (.ref a1), .val (.ref a2), .val (.int (0 : Int32)), .val (.int (0 : Int32)), .val .null, .unset] [(.int (0 : Int32)), (.ref a1)]) S0 := fun t kt => go11 t (st12 _ kt)
  obtain ⟨T14, h14, X14, e14, W14, st14⟩ := putFN X12 hx hZ5 hown5 (wi hw 22 rfl) Via.refl e12 F_coder_a1 E_a1 (Or.inr ⟨(wi hw 18 rfl), rfl, hnm⟩) (wi hw 3 rfl) (ty := .byte) (v' := (.int (0 : Int32))) (by decide) rfl rfl (g := (mkF m 23 #[.val (.ref a1), .val (.ref a2), .val (.int (0 : Int32)), .val (.int (0 : Int32)), .val .null, .unset] [(.int (0 : Int32)), (.ref a1)])) rfl rfl (hb hby d9_23)
  have E_a1 := E_a1.wr W14
  have F_value_a1 := F_value_a1.other W14 (Or.inr (slot_ne (Or.inr (wi hw 17 rfl)) (Or.inr (wi hw 18 rfl)) (by decide) (t := (.array .byte)) (t' := .byte) (by decide) (by decide)))
  have VA5 := VA5.other W14 (Or.inl ne_e1_a1)
  have CO5 := CO5.other W14 (Or.inl ne_e1_a1)
  have AR5 := AR5.other W14 ne_b5_a1
  have F_coder_a1 := F_coder_a1.same W14
  have Z0 := Nat.le_trans Z0 (Keep.of_wr W14).1
  have K0 := K0.wr W14 (Or.inl (List.mem_of_getElem? (i := 0) rfl))
  have hk5 := Nat.le_trans hk5 (Keep.of_wr W14).1
  have Sold := Sa
  have Sa := Safe.wr W14 Sold R0.1 Sold
  have R0 := R0.trans (CHr.wr W14 Sold R0.1)
  have N14r := Fr.snoc X14 N9r g_a1
  have go15 : Go p e below T14 (mkF m 26 #[.val (.ref a1), .val (.ref a2), .val (.int (0 : Int32)), .val (.int (0 : Int32)), .val .null, .unset] []) S0 := fun t kt => go13 t (st14 _ kt)
  obtain ⟨fs, hr, hrun, hended, hend⟩ := X14.leaveW hS5 (by rw [e14]; exact hk5) (v := none) (fun _ => rfl)
  refine ⟨_, _, go15 _ ?_, hrun, hended, _, _, rfl, ?_, (by rw [hh]; show CHr Z own_EL s.vm h0 T14.vm T14.heap; rw [e14]; exact R0.trans (CHv.at X14 hZ5 hEL R0.1)), hend.1, hend.2.1, hend.2.2.1, hend.2.2.2.mono (by decide) (by decide)⟩
  · show Steps p.tables e below (T14.setTop (mkF m 26 #[.val (.ref a1), .val (.ref a2), .val (.int (0 : Int32)), .val (.int (0 : Int32)), .val .null, .unset] [])) _
    exact X14.returnOut hx Bd.returns (hb hby d9_26) hr
  · show Q_rm_new4 Z a1 a2 h0 n0 _ T14.heap _
    rw [e14]
    exact ⟨rfl, N14r, K0, ⟨b5, c5, E_a1, F_coder_a1, F_value_a1, AR5⟩⟩
theorem efj_rm_new1 (m : MethodId) (a1 : Addr) (a2 : Addr) : entryFrame m #[(.ref a1), (.ref a2)] 2 = mkF m 0 #[.val (.ref a1), .val (.ref a2)] [] := by first | (simp [entryFrame, mkF, argsToLocals, Value.category]; done) | rfl
def Q_rm_new1 (Z : State) (a1 : Addr) (a2 : Addr) (k2 : ClassId) (h0 : Heap) (n0 : Nat) (v : Option Value) (h : Heap) (L : List Loc) : Prop := v = none ∧ Fr n0 L ∧ Keep h0 h [a1] ∧ Bs Z h a1 (0 : Int32) []
theorem rm_new1 (l : Launch) (Z : State) (a0 : Array Value) (hw : ∀ d ∈ tables_1, d.before a0 Z = true) (ws : List Jvm.Cond) (a1 : Addr) (a2 : Addr) (k2 : ClassId) (h0 : Heap) (n0 : Nat) (Z0 : n0 ≤ h0.size) (E_a1 : Exa Z h0 a1 "java/lang/String") (F_value_a1 : Fld Z h0 a1 "java/lang/String" "value" "[B" .null) (F_coder_a1 : Fld Z h0 a1 "java/lang/String" "coder" "B" (.int (0 : Int32))) (g_a1 : n0 ≤ a1) (hEL : EW Z a0 own_EL) (V_a2 : Arv Z h0 a2 k2 .char (0 : Int32) [] (.int (0 : Int32))) :
    MetFree l y3_ (head1 (Jvm.Cond.code y3_ jdk_42_method_3_code 2 none :: ws) ({ frames := 2, cells := 2, slots := 4, locals := 29 } : Room)) (fun a U => a = #[(.ref a1), (.ref a2)] ∧ Z.Warmed39 U.vm ∧ U.heap = h0 ∧ CHv Z own_EL U.vm h0) (fun _ _ _ _ _ => True) (fun _ U o U' => ∃ v L, o = .returned v ∧ Q_rm_new1 Z a1 a2 k2 h0 n0 v U'.heap L ∧ CHr Z own_EL U.vm U.heap U'.vm U'.heap ∧ ReturnedEndW U o U' L ({ frames := 2, cells := 2, slots := 4, locals := 29 } : Room).cells ({ frames := 2, cells := 2, slots := 4, locals := 29 } : Room).slots) := by
  refine MetFree.of_bodySF (plainFor_of_name pnj_10) hisR ?_
  intro p e s m args below meth c s₁ Bd hml0 hP hK
  obtain ⟨rfl, hZ, hh, CH⟩ := hP
  have hx := Bd.exec
  have hby := Bd.bytes
  have hml : c.maxLocals = 2 := hml0
  have hown : s.vm.findClass "java/lang/String" = some m.cls := findClass_of_methodNamed Bd.named
  have hnm := (name_of_methodNamed Bd.named Bd.method).1
  have X0 : Stand p l e ({ frames := 2, cells := 2, slots := 4, locals := 29 } : Room) s m #[(.ref a1), (.ref a2)] below meth c s₁ [] 0 0 := Stand.of_body Bd
  have e0 : s₁.heap = h0 := by rw [← hh, Bd.state]; rfl
  have N0 := Fr.nil n0
  have go0 : Go p e below s₁ (mkF m 0 #[.val (.ref a1), .val (.ref a2)] []) (s₁.setTop (entryFrame m #[(.ref a1), (.ref a2)] 2)) := fun t k => castTop (efj_rm_new1 m a1 a2) k
  generalize (s₁.setTop (entryFrame m #[(.ref a1), (.ref a2)] 2)) = S0 at go0 ⊢
  have hS : s.Since s.vm s.heap.size := own_since s
  have hk : s.heap.size ≤ h0.size := by rw [← hh]; exact Nat.le_refl _
  have X0 : Stand p l e _ (s.setVm s.vm) m _ below meth c s₁ [] 0 0 := X0
  have hZ : Z.Warmed39 (s.setVm s.vm).vm := hZ
  have hown : (s.setVm s.vm).vm.findClass "java/lang/String" = some m.cls := hown
  have R0 : CHr Z own_EL s.vm h0 s.vm h0 := CHr.refl CH
  have go1 : Go p e below s₁ (mkF m 4 #[.val (.ref a1), .val (.ref a2)] [(.ref a2), (.int (0 : Int32)), (.ref a2), (.ref a1)]) S0 := by
    intro tt kt
    refine go0 tt ?_
    refine XS.aloadN X0.here hx rfl (hb hby d10_0) rfl rfl ?_
    refine XS.aloadN X0.here hx rfl (hb hby d10_1) rfl rfl ?_
    refine XS.iconst X0.here hx rfl (hb hby d10_2) ?_
    refine XS.aloadN X0.here hx rfl (hb hby d10_3) rfl rfl ?_
    exact kt
  obtain ⟨cl2, Ar2, q2, S2, N2, H2, G2⟩ := id V_a2
  have go3 : Go p e below s₁ (mkF m 6 #[.val (.ref a1), .val (.ref a2)] [.null, (.int (0 : Int32)), (.int (0 : Int32)), (.ref a2), (.ref a1)]) S0 := by
    intro tt kt
    refine go1 tt ?_
    refine X0.arraylength hx (by rw [e0]; exact Ar2.1) (State.isArrayOf_alike hZ.alike Ar2.2.1) (g := (mkF m 4 #[.val (.ref a1), .val (.ref a2)] [(.ref a2), (.int (0 : Int32)), (.ref a2), (.ref a1)])) rfl rfl (hb hby d10_4) _ ?_
    rw [len_of S2 N2]
    refine XS.aconstNull X0.here hx rfl (hb hby d10_5) ?_
    exact kt
  obtain ⟨_, _, ⟨T4, L4, k4, n4⟩, -, X4, hS4a, hg4, ⟨Lc4, hQ4, l4, y4, z4, CR4⟩, st4⟩ := X0.specialBackS hx (y := y10_) rfl hown (mvT hZ (wi hw 8 rfl)) (mvT hZ (wi hw 9 rfl)) (mvT hZ (wi hw 11 rfl)) (by decide) (backOfSH (W := 0) (rm_new4 l Z a0 hw [] a1 a2 h0 n0 Z0 E_a1 F_value_a1 F_coder_a1 g_a1 hEL) hZ (wi hw 11 rfl) (wi hw 4 rfl) (by decide) (by decide) hEL R0.1) (g := (mkF m 6 #[.val (.ref a1), .val (.ref a2)] [.null, (.int (0 : Int32)), (.int (0 : Int32)), (.ref a2), (.ref a1)])) rfl (by rw [hml]; rfl) (Steps.refl _) (a := a1) (argsL := [(.ref a2), (.int (0 : Int32)), (.int (0 : Int32)), .null]) (rest := []) (lenOf pd8_ rfl) rfl (by show 2 * 0 + _ ≤ _; exact Nat.le_of_eq rfl) (hb hby d10_6) (fun _ _ => ⟨rfl, e0, (by decide : 0 + 2 ≤ _), (by decide : 0 + 4 ≤ _)⟩)
  dsimp only [Pt.U, Pt.locs, Pt.cells, Pt.slots] at X4 hS4a hg4 l4 y4 z4 CR4 st4 hQ4
  subst l4 y4 z4
  obtain ⟨rfl, N4q, K4, S4⟩ := hQ4
  have hS4 : s.Since T4.vm T4.heap.size := foldS hS (by rw [e0]; exact hk) hS4a hg4
  have hk4 : T4.heap.size ≤ T4.heap.size := Nat.le_refl _
  have hZ4 : Z.Warmed39 (s.setVm T4.vm).vm := State.Warmed39.trans (t := s.setVm s.vm) hZ hS4a.1
  have hown4 : (s.setVm T4.vm).vm.findClass "java/lang/String" = some m.cls := by rw [show (s.setVm T4.vm).vm = T4.vm from rfl, hS4a.1.alike.findClass]; exact hown
  have X4 : Stand p l e _ (s.setVm T4.vm) m _ below meth c T4 _ _ _ := X4
  have R0 := R0.trans CR4
  have N4 := Fr.app N0 N4q
  obtain ⟨kk4, hkk4⟩ : ∃ z, z = T4.heap.size := ⟨_, rfl⟩
  rw [← hkk4] at hS4
  have hk4 : kk4 ≤ T4.heap.size := Nat.le_of_eq hkk4
  have go5 : Go p e below T4 (mkF m 9 #[.val (.ref a1), .val (.ref a2)] []) S0 := fun t kt => go3 t (st4.trans kt)
  obtain ⟨fs, hr, hrun, hended, hend⟩ := X4.leaveW hS4 (hk4) (v := none) (fun _ => rfl)
  refine ⟨_, _, go5 _ ?_, hrun, hended, _, _, rfl, ?_, (by rw [hh]; show CHr Z own_EL s.vm h0 T4.vm T4.heap; exact R0.trans (CHv.at X4 hZ4 hEL R0.1)), hend.1, hend.2.1, hend.2.2.1, hend.2.2.2.mono (by decide) (by decide)⟩
  · show Steps p.tables e below (T4.setTop (mkF m 9 #[.val (.ref a1), .val (.ref a2)] [])) _
    exact X4.returnOut hx Bd.returns (hb hby d10_9) hr
  · show Q_rm_new1 Z a1 a2 k2 h0 n0 _ T4.heap _
    exact ⟨rfl, N4, K4, S4⟩
theorem pnj_51 : plainName "java/lang/Throwable" = true := by first | (simp [plainName, overriddenIn]; done) | decide +kernel
theorem efj_rm_gm (m : MethodId) (a1 : Addr) : entryFrame m #[(.ref a1)] 1 = mkF m 0 #[.val (.ref a1)] [] := by first | (simp [entryFrame, mkF, argsToLocals, Value.category]; done) | rfl
theorem d51_0 : Dc c54 0 (.aload_n 0) 1 := by decide +kernel
theorem d51_1 : Dc c54 1 (.getfield 31) 3 := by decide +kernel
theorem d51_4 : Dc c54 4 (.areturn) 1 := by decide +kernel
def Q_rm_gm (Z : State) (a1 : Addr) (mm : Addr) (h0 : Heap) (n0 : Nat) (v : Option Value) (h : Heap) (L : List Loc) : Prop := v = some (.ref mm) ∧ Fr n0 L ∧ h = h0
theorem rm_gm (l : Launch) (Z : State) (a0 : Array Value) (hw : Hw a0 Z) (ws : List Jvm.Cond) (a1 : Addr) (mm : Addr) (h0 : Heap) (n0 : Nat) (Z0 : n0 ≤ h0.size) (F_m : Fld Z h0 a1 "java/lang/Throwable" "detailMessage" "Ljava/lang/String;" (.ref mm)) :
    MF l y25_ jdk_78_method_6_code 1 (some (.object "java/lang/String")) ws (rM 0 0 0 0) #[(.ref a1)] Z h0 (Q_rm_gm Z a1 mm h0 n0) := by
  refine own_bodyF n0 (plainFor_of_name pnj_51) (fun m => efj_rm_gm m a1) ?_
  intro p e s m below meth c s₁ S0 hx hby hml hZ hown hnm hret hlk X0 e0 hh N0 hK go0
  have go1 : Go p e below s₁ (mkF m 1 #[.val (.ref a1)] [(.ref a1)]) S0 := by
    intro tt kt
    refine go0 tt ?_
    refine XS.aloadN X0.here hx rfl (hb hby d51_0) rfl rfl ?_
    exact kt
  obtain ⟨T2, X2, e2, st2⟩ := getF X0 hx hZ hown (host := "") (Or.inl (wi hw 249 rfl)) Via.refl e0 F_m (g := (mkF m 1 #[.val (.ref a1)] [(.ref a1)])) rfl rfl (hb hby d51_1)
  have go3 : Go p e below T2 (mkF m 4 #[.val (.ref a1)] [(.ref mm)]) S0 := fun t kt => go1 t (st2 _ kt)
  exact own_leaveO X2 hx hret hlk (hb hby d51_4) go3 e2 (⟨rfl, N0, rfl⟩) (by decide) (by decide)
theorem pnj_52 : plainName "jdk/internal/util/Preconditions" = true := by first | (simp [plainName, overriddenIn]; done) | decide +kernel
theorem efj_rm_ckR (m : MethodId) (j : Nat) (fa : Addr) : entryFrame m #[(.int (Int32.ofNat j)), (.int (17 : Int32)), (.ref fa)] 3 = mkF m 0 #[.val (.int (Int32.ofNat j)), .val (.int (17 : Int32)), .val (.ref fa)] [] := by first | (simp [entryFrame, mkF, argsToLocals, Value.category]; done) | rfl
theorem d52_0 : Dc c2 0 (.iload_n 0) 1 := by decide +kernel
theorem d52_1 : Dc c2 1 (.ifCond .lt 8) 3 := by decide +kernel
theorem d52_4 : Dc c2 4 (.iload_n 0) 1 := by decide +kernel
theorem d52_5 : Dc c2 5 (.iload_n 1) 1 := by decide +kernel
theorem d52_6 : Dc c2 6 (.if_icmp .lt 10) 3 := by decide +kernel
theorem d52_16 : Dc c2 16 (.iload_n 0) 1 := by decide +kernel
theorem d52_17 : Dc c2 17 (.ireturn) 1 := by decide +kernel
def Q_rm_ckR (Z : State) (j : Nat) (fa : Addr) (h0 : Heap) (n0 : Nat) (v : Option Value) (h : Heap) (L : List Loc) : Prop := v = some (.int (Int32.ofNat j)) ∧ Fr n0 L ∧ h = h0
theorem rm_ckR (l : Launch) (Z : State) (a0 : Array Value) (hw : Hw a0 Z) (ws : List Jvm.Cond) (j : Nat) (fa : Addr) (h0 : Heap) (n0 : Nat) (Z0 : n0 ≤ h0.size) (hj : j < 17) :
    MF l y21_ jdk_41_method_11_code 3 (some .int) ws (rM 0 0 0 0) #[(.int (Int32.ofNat j)), (.int (17 : Int32)), (.ref fa)] Z h0 (Q_rm_ckR Z j fa h0 n0) := by
  refine own_bodyF n0 (plainFor_of_name pnj_52) (fun m => efj_rm_ckR m j fa) ?_
  intro p e s m below meth c s₁ S0 hx hby hml hZ hown hnm hret hlk X0 e0 hh N0 hK go0
  have go1 : Go p e below s₁ (mkF m 17 #[.val (.int (Int32.ofNat j)), .val (.int (17 : Int32)), .val (.ref fa)] [(.int (Int32.ofNat j))]) S0 := by
    intro tt kt
    refine go0 tt ?_
    refine XS.iloadN X0.here hx rfl (hb hby d52_0) rfl ?_
    refine XS.ifNo X0.here hx rfl (hb hby d52_1) rfl ((if0 _ _).trans (flt (oN (by omega))).1) ?_
    refine XS.iloadN X0.here hx rfl (hb hby d52_4) rfl ?_
    refine XS.iloadN X0.here hx rfl (hb hby d52_5) rfl ?_
    refine XS.icmpYes X0.here hx rfl (pc0 := 6) (pc' := 16) rfl (hb hby d52_6) rfl (tlt (own_ltN (n := 17) hj (by omega))).1 (by decide) (by decide) ?_
    refine XS.iloadN X0.here hx rfl (hb hby d52_16) rfl ?_
    exact kt
  exact own_leaveI X0 hx hret hlk (hb hby d52_17) go1 e0 (⟨rfl, N0, rfl⟩) (by decide) (by decide)
theorem efj_rm_ckN (m : MethodId) (j : Nat) : entryFrame m #[(.int (Int32.ofNat j)), (.int (17 : Int32)), .null] 3 = mkF m 0 #[.val (.int (Int32.ofNat j)), .val (.int (17 : Int32)), .val .null] [] := by first | (simp [entryFrame, mkF, argsToLocals, Value.category]; done) | rfl
def Q_rm_ckN (Z : State) (j : Nat) (h0 : Heap) (n0 : Nat) (v : Option Value) (h : Heap) (L : List Loc) : Prop := v = some (.int (Int32.ofNat j)) ∧ Fr n0 L ∧ h = h0
theorem rm_ckN (l : Launch) (Z : State) (a0 : Array Value) (hw : Hw a0 Z) (ws : List Jvm.Cond) (j : Nat) (h0 : Heap) (n0 : Nat) (Z0 : n0 ≤ h0.size) (hj : j < 17) :
    MF l y21_ jdk_41_method_11_code 3 (some .int) ws (rM 0 0 0 0) #[(.int (Int32.ofNat j)), (.int (17 : Int32)), .null] Z h0 (Q_rm_ckN Z j h0 n0) := by
  refine own_bodyF n0 (plainFor_of_name pnj_52) (fun m => efj_rm_ckN m j) ?_
  intro p e s m below meth c s₁ S0 hx hby hml hZ hown hnm hret hlk X0 e0 hh N0 hK go0
  have go1 : Go p e below s₁ (mkF m 17 #[.val (.int (Int32.ofNat j)), .val (.int (17 : Int32)), .val .null] [(.int (Int32.ofNat j))]) S0 := by
    intro tt kt
    refine go0 tt ?_
    refine XS.iloadN X0.here hx rfl (hb hby d52_0) rfl ?_
    refine XS.ifNo X0.here hx rfl (hb hby d52_1) rfl ((if0 _ _).trans (flt (oN (by omega))).1) ?_
    refine XS.iloadN X0.here hx rfl (hb hby d52_4) rfl ?_
    refine XS.iloadN X0.here hx rfl (hb hby d52_5) rfl ?_
    refine XS.icmpYes X0.here hx rfl (pc0 := 6) (pc' := 16) rfl (hb hby d52_6) rfl (tlt (own_ltN (n := 17) hj (by omega))).1 (by decide) (by decide) ?_
    refine XS.iloadN X0.here hx rfl (hb hby d52_16) rfl ?_
    exact kt
  exact own_leaveI X0 hx hret hlk (hb hby d52_17) go1 e0 (⟨rfl, N0, rfl⟩) (by decide) (by decide)
theorem pnj_53 : plainName "java/lang/String" = true := by first | (simp [plainName, overriddenIn]; done) | decide +kernel
theorem efj_rm_sck (m : MethodId) (j : Nat) : entryFrame m #[(.int (Int32.ofNat j)), (.int (17 : Int32))] 2 = mkF m 0 #[.val (.int (Int32.ofNat j)), .val (.int (17 : Int32))] [] := by first | (simp [entryFrame, mkF, argsToLocals, Value.category]; done) | rfl
theorem d53_0 : Dc c9 0 (.iload_n 0) 1 := by decide +kernel
theorem d53_1 : Dc c9 1 (.iload_n 1) 1 := by decide +kernel
theorem d53_2 : Dc c9 2 (.getstatic 1053) 3 := by decide +kernel
theorem pd5_ : parseMethodDescriptor "(IILjava/util/function/BiFunction;)I" = some ⟨[.int, .int, (.object "java/util/function/BiFunction")], some .int⟩ := by decide +kernel
theorem d53_5 : Dc c9 5 (.invokestatic 1059) 3 := by decide +kernel
theorem d53_8 : Dc c9 8 (.pop) 1 := by decide +kernel
theorem d53_9 : Dc c9 9 (.return_) 1 := by decide +kernel
def Q_rm_sck (Z : State) (j : Nat) (fm : Value) (h0 : Heap) (n0 : Nat) (v : Option Value) (h : Heap) (L : List Loc) : Prop := v = none ∧ Fr n0 L ∧ h = h0
theorem rm_sck (l : Launch) (Z : State) (a0 : Array Value) (hw : Hw a0 Z) (ws : List Jvm.Cond) (j : Nat) (fm : Value) (h0 : Heap) (n0 : Nat) (Z0 : n0 ≤ h0.size) (O0 : Ext Z.heap h0) (hn0 : Z.heap.size ≤ n0) (S_SI : Sta Z Z.heap "jdk/internal/util/Preconditions" "SIOOBE_FORMATTER" "Ljava/util/function/BiFunction;" fm) (rf : fm.isRef = true) (hj : j < 17) :
    MF l y33_ jdk_42_method_155_code 2 none ws (rM 1 0 0 14) #[(.int (Int32.ofNat j)), (.int (17 : Int32))] Z h0 (Q_rm_sck Z j fm h0 n0) := by
  refine own_bodyF n0 (plainFor_of_name pnj_53) (fun m => efj_rm_sck m j) ?_
  intro p e s m below meth c s₁ S0 hx hby hml hZ hown hnm hret hlk X0 e0 hh N0 hK go0
  have go1 : Go p e below s₁ (mkF m 2 #[.val (.int (Int32.ofNat j)), .val (.int (17 : Int32))] [(.int (17 : Int32)), (.int (Int32.ofNat j))]) S0 := by
    intro tt kt
    refine go0 tt ?_
    refine XS.iloadN X0.here hx rfl (hb hby d53_0) rfl ?_
    refine XS.iloadN X0.here hx rfl (hb hby d53_1) rfl ?_
    exact kt
  have S_N := S_SI.ext O0
  rcases own_isref rf with ⟨fa, rfl⟩ | rfl
  · obtain ⟨T2, X2, e2, st2⟩ := getS2 X0 hx hZ hown (host := "") (Or.inl (wi hw 42 rfl)) Via.refl e0 S_N (g := (mkF m 2 #[.val (.int (Int32.ofNat j)), .val (.int (17 : Int32))] [(.int (17 : Int32)), (.int (Int32.ofNat j))])) rfl (hb hby d53_2)
    have go3 : Go p e below T2 (mkF m 5 #[.val (.int (Int32.ofNat j)), .val (.int (17 : Int32))] [(.ref fa), (.int (17 : Int32)), (.int (Int32.ofNat j))]) S0 := fun t kt => go1 t (st2 _ kt)
    obtain ⟨_, _, ⟨T4, L4, k4, n4⟩, -, X4, ⟨Lc4, hQ4, l4, y4, z4⟩, st4⟩ := Jvm.LawKit.callS X2 hx (y := y21_) hown (mvT hZ (wi hw 44 rfl)) (mvT hZ (wi hw 45 rfl)) (mvT hZ (wi hw 43 rfl)) (mvT hZ (wi hw 46 rfl)) (by decide) (backOf (W := 0) (rm_ckR l Z a0 hw [] j fa h0 n0 Z0 hj) hZ (wi hw 46 rfl) (wi hw 43 rfl) (by decide) (by decide)) (g := (mkF m 5 #[.val (.int (Int32.ofNat j)), .val (.int (17 : Int32))] [(.ref fa), (.int (17 : Int32)), (.int (Int32.ofNat j))])) rfl (by rw [hml]; rfl) (argsL := [(.int (Int32.ofNat j)), (.int (17 : Int32)), (.ref fa)]) (rest := []) (lenOf pd5_ rfl) rfl (by show 2 * 0 + _ ≤ _; exact Nat.le_of_eq rfl) (hb hby d53_5) (fun _ _ => ⟨rfl, e2, (by decide : 0 + 0 ≤ _), (by decide : 0 + 0 ≤ _)⟩)
    dsimp only [Pt.U, Pt.locs, Pt.cells, Pt.slots] at X4 l4 y4 z4 st4 hQ4
    subst l4 y4 z4
    obtain ⟨rfl, N4q, g4⟩ := hQ4
    rw [← g4] at O0
    rw [← g4] at Z0
    have N4 := Fr.app N0 N4q
    have go5 : Go p e below T4 (mkF m 8 #[.val (.int (Int32.ofNat j)), .val (.int (17 : Int32))] [(.int (Int32.ofNat j))]) S0 := fun t kt => go3 t (st4 _ kt)
    have go6 : Go p e below T4 (mkF m 9 #[.val (.int (Int32.ofNat j)), .val (.int (17 : Int32))] []) S0 := by
      intro tt kt
      refine go5 tt ?_
      refine XS.pop X4.here hx rfl (hb hby d53_8) rfl rfl ?_
      exact kt
    exact own_leaveV X4 hx hret hlk (hb hby d53_9) go6 rfl (⟨rfl, N4, g4⟩) (by decide) (by decide)
  · obtain ⟨T7, X7, e7, st7⟩ := getS2 X0 hx hZ hown (host := "") (Or.inl (wi hw 42 rfl)) Via.refl e0 S_N (g := (mkF m 2 #[.val (.int (Int32.ofNat j)), .val (.int (17 : Int32))] [(.int (17 : Int32)), (.int (Int32.ofNat j))])) rfl (hb hby d53_2)
    have go8 : Go p e below T7 (mkF m 5 #[.val (.int (Int32.ofNat j)), .val (.int (17 : Int32))] [.null, (.int (17 : Int32)), (.int (Int32.ofNat j))]) S0 := fun t kt => go1 t (st7 _ kt)
    obtain ⟨_, _, ⟨T9, L9, k9, n9⟩, -, X9, ⟨Lc9, hQ9, l9, y9, z9⟩, st9⟩ := Jvm.LawKit.callS X7 hx (y := y21_) hown (mvT hZ (wi hw 44 rfl)) (mvT hZ (wi hw 45 rfl)) (mvT hZ (wi hw 43 rfl)) (mvT hZ (wi hw 46 rfl)) (by decide) (backOf (W := 0) (rm_ckN l Z a0 hw [] j h0 n0 Z0 hj) hZ (wi hw 46 rfl) (wi hw 43 rfl) (by decide) (by decide)) (g := (mkF m 5 #[.val (.int (Int32.ofNat j)), .val (.int (17 : Int32))] [.null, (.int (17 : Int32)), (.int (Int32.ofNat j))])) rfl (by rw [hml]; rfl) (argsL := [(.int (Int32.ofNat j)), (.int (17 : Int32)), .null]) (rest := []) (lenOf pd5_ rfl) rfl (by show 2 * 0 + _ ≤ _; exact Nat.le_of_eq rfl) (hb hby d53_5) (fun _ _ => ⟨rfl, e7, (by decide : 0 + 0 ≤ _), (by decide : 0 + 0 ≤ _)⟩)
    dsimp only [Pt.U, Pt.locs, Pt.cells, Pt.slots] at X9 l9 y9 z9 st9 hQ9
    subst l9 y9 z9
    obtain ⟨rfl, N9q, g9⟩ := hQ9
    rw [← g9] at O0
    rw [← g9] at Z0
    have N9 := Fr.app N0 N9q
    have go10 : Go p e below T9 (mkF m 8 #[.val (.int (Int32.ofNat j)), .val (.int (17 : Int32))] [(.int (Int32.ofNat j))]) S0 := fun t kt => go8 t (st9 _ kt)
    have go11 : Go p e below T9 (mkF m 9 #[.val (.int (Int32.ofNat j)), .val (.int (17 : Int32))] []) S0 := by
      intro tt kt
      refine go10 tt ?_
      refine XS.pop X9.here hx rfl (hb hby d53_8) rfl rfl ?_
      exact kt
    exact own_leaveV X9 hx hret hlk (hb hby d53_9) go11 rfl (⟨rfl, N9, g9⟩) (by decide) (by decide)
theorem own_srcB : ∀ j, j < 17 → own_PB.getD j (.int (0 : Int32)) = .int (own_lb (own_P.getD j 0)) := by decide +kernel
theorem own_chP : ∀ j, j < 17 → nar .char ((((own_lb (own_P.getD j 0)) &&& (255 : Int32)).toUInt32.toUInt16.toUInt32.toInt32)) = own_P.getD j 0 := by decide +kernel
theorem own_chP2 : ∀ j, j < 17 → nar .char (own_P.getD j 0) = own_P.getD j 0 := by decide +kernel
theorem pnj_54 : plainName "java/lang/StringLatin1" = true := by first | (simp [plainName, overriddenIn]; done) | decide +kernel
theorem efj_rm_lch (m : MethodId) (t : Addr) (j : Nat) : entryFrame m #[(.ref t), (.int (Int32.ofNat j))] 2 = mkF m 0 #[.val (.ref t), .val (.int (Int32.ofNat j))] [] := by first | (simp [entryFrame, mkF, argsToLocals, Value.category]; done) | rfl
theorem d54_0 : Dc c17 0 (.iload_n 1) 1 := by decide +kernel
theorem d54_1 : Dc c17 1 (.aload_n 0) 1 := by decide +kernel
theorem d54_2 : Dc c17 2 (.arraylength) 1 := by decide +kernel
theorem d54_3 : Dc c17 3 (.invokestatic 9) 3 := by decide +kernel
theorem d54_6 : Dc c17 6 (.aload_n 0) 1 := by decide +kernel
theorem d54_7 : Dc c17 7 (.iload_n 1) 1 := by decide +kernel
theorem d54_8 : Dc c17 8 (.baload) 1 := by decide +kernel
theorem d54_9 : Dc c17 9 (.sipush 255) 3 := by decide +kernel
theorem d54_12 : Dc c17 12 (.iand) 1 := by decide +kernel
theorem d54_13 : Dc c17 13 (.i2c) 1 := by decide +kernel
theorem d54_14 : Dc c17 14 (.ireturn) 1 := by decide +kernel
def Q_rm_lch (Z : State) (t : Addr) (j : Nat) (kt : ClassId) (fm : Value) (h0 : Heap) (n0 : Nat) (v : Option Value) (h : Heap) (L : List Loc) : Prop := v = some (.int (own_P.getD j 0)) ∧ Fr n0 L ∧ h = h0
theorem rm_lch (l : Launch) (Z : State) (a0 : Array Value) (hw : Hw a0 Z) (ws : List Jvm.Cond) (t : Addr) (j : Nat) (kt : ClassId) (fm : Value) (h0 : Heap) (n0 : Nat) (Z0 : n0 ≤ h0.size) (O0 : Ext Z.heap h0) (hn0 : Z.heap.size ≤ n0) (S_SI : Sta Z Z.heap "jdk/internal/util/Preconditions" "SIOOBE_FORMATTER" "Ljava/util/function/BiFunction;" fm) (rf : fm.isRef = true) (A_t : Arv Z h0 t kt .byte (Int32.ofNat own_PB.length) own_PB (.int (0 : Int32))) (hj : j < 17) :
    MF l y57_ jdk_43_method_2_code 2 (some .char) ws (rM 2 0 0 27) #[(.ref t), (.int (Int32.ofNat j))] Z h0 (Q_rm_lch Z t j kt fm h0 n0) := by
  refine own_bodyF n0 (plainFor_of_name pnj_54) (fun m => efj_rm_lch m t j) ?_
  intro p e s m below meth c s₁ S0 hx hby hml hZ hown hnm hret hlk X0 e0 hh N0 hK go0
  have V_t : Arv Z h0 t kt .byte (17 : Int32) own_PB (.int (0 : Int32)) := A_t
  have hz : (17 : Int32).toNatClampNeg = own_PB.length := rfl
  have hPl := own_PBl
  have hv0 := own_srcB j hj
  have go1 : Go p e below s₁ (mkF m 2 #[.val (.ref t), .val (.int (Int32.ofNat j))] [(.ref t), (.int (Int32.ofNat j))]) S0 := by
    intro tt kt
    refine go0 tt ?_
    refine XS.iloadN X0.here hx rfl (hb hby d54_0) rfl ?_
    refine XS.aloadN X0.here hx rfl (hb hby d54_1) rfl rfl ?_
    exact kt
  obtain ⟨cl2, Ar2, q2, S2, N2, H2, G2⟩ := id V_t
  have go3 : Go p e below s₁ (mkF m 3 #[.val (.ref t), .val (.int (Int32.ofNat j))] [(.int (17 : Int32)), (.int (Int32.ofNat j))]) S0 := by
    intro tt kt
    refine go1 tt ?_
    refine X0.arraylength hx (by rw [e0]; exact Ar2.1) (State.isArrayOf_alike hZ.alike Ar2.2.1) (g := (mkF m 2 #[.val (.ref t), .val (.int (Int32.ofNat j))] [(.ref t), (.int (Int32.ofNat j))])) rfl rfl (hb hby d54_2) _ ?_
    rw [len_of S2 N2]
    exact kt
  obtain ⟨_, _, ⟨T4, L4, k4, n4⟩, -, X4, ⟨Lc4, hQ4, l4, y4, z4⟩, st4⟩ := Jvm.LawKit.callS X0 hx (y := y33_) hown (mvT hZ (wi hw 39 rfl)) (mvT hZ (wi hw 40 rfl)) (mvT hZ (wi hw 4 rfl)) (mvT hZ (wi hw 41 rfl)) (by decide) (backOf (W := 0) (rm_sck l Z a0 hw [] j fm h0 n0 Z0 O0 hn0 S_SI rf hj) hZ (wi hw 41 rfl) (wi hw 4 rfl) (by decide) (by decide)) (g := (mkF m 3 #[.val (.ref t), .val (.int (Int32.ofNat j))] [(.int (17 : Int32)), (.int (Int32.ofNat j))])) rfl (by rw [hml]; rfl) (argsL := [(.int (Int32.ofNat j)), (.int (17 : Int32))]) (rest := []) (lenOf pd28_ rfl) rfl (by show 2 * 0 + _ ≤ _; exact Nat.le_of_eq rfl) (hb hby d54_3) (fun _ _ => ⟨rfl, e0, (by decide : 0 + 0 ≤ _), (by decide : 0 + 0 ≤ _)⟩)
  dsimp only [Pt.U, Pt.locs, Pt.cells, Pt.slots] at X4 l4 y4 z4 st4 hQ4
  subst l4 y4 z4
  obtain ⟨rfl, N4q, g4⟩ := hQ4
  rw [← g4] at O0
  rw [← g4] at V_t Z0
  have N4 := Fr.app N0 N4q
  have go5 : Go p e below T4 (mkF m 6 #[.val (.ref t), .val (.int (Int32.ofNat j))] []) S0 := fun t kt => go3 t (st4 _ kt)
  have go6 : Go p e below T4 (mkF m 8 #[.val (.ref t), .val (.int (Int32.ofNat j))] [(.int (Int32.ofNat j)), (.ref t)]) S0 := by
    intro tt kt
    refine go5 tt ?_
    refine XS.aloadN X4.here hx rfl (hb hby d54_6) rfl rfl ?_
    refine XS.iloadN X4.here hx rfl (hb hby d54_7) rfl ?_
    exact kt
  obtain ⟨cl7, Ar7, q7, S7, N7, H7, G7⟩ := id V_t
  have go9 : Go p e below T4 (mkF m 14 #[.val (.ref t), .val (.int (Int32.ofNat j))] [(.int (((own_lb (own_P.getD j 0)) &&& (255 : Int32)).toUInt32.toUInt16.toUInt32.toInt32))]) S0 := by
    intro tt kt
    refine go6 tt ?_
    refine X4.baloadBytes hx (j := (Int32.ofNat j)) (v := (.int (own_lb (own_P.getD j 0)))) Ar7.1 (State.isArrayOf_alike hZ.alike Ar7.2.1) Ar7.2.2 (fun q => q.elim (oN (by omega)) fun q => by rw [S7, hz, (oC (n := j) (by omega))] at q; omega) (by rw [(oC (n := j) (by omega)), H7 _ (by rw [S7, hz]; omega)]; exact congrArg some hv0) (g := (mkF m 8 #[.val (.ref t), .val (.int (Int32.ofNat j))] [(.int (Int32.ofNat j)), (.ref t)])) rfl rfl (hb hby d54_8) _ ?_
    refine XS.sipush X4.here hx rfl (hb hby d54_9) ?_
    refine XS.iand X4.here hx rfl (hb hby d54_12) rfl ?_
    refine XS.i2c X4.here hx rfl (hb hby d54_13) rfl ?_
    exact kt
  exact own_leaveN (t := .char) (by simp) X4 hx hret hlk (hb hby d54_14) go9 rfl (⟨by rw [own_chP j hj], N4, g4⟩) (by decide) (by decide)
theorem pnj_55 : plainName "java/lang/String" = true := by first | (simp [plainName, overriddenIn]; done) | decide +kernel
theorem efj_rm_sil (m : MethodId) (a1 : Addr) : entryFrame m #[(.ref a1)] 1 = mkF m 0 #[.val (.ref a1)] [] := by first | (simp [entryFrame, mkF, argsToLocals, Value.category]; done) | rfl
theorem d55_0 : Dc c8 0 (.getstatic 38) 3 := by decide +kernel
theorem d55_3 : Dc c8 3 (.ifCond .eq 14) 3 := by decide +kernel
theorem d55_6 : Dc c8 6 (.aload_n 0) 1 := by decide +kernel
theorem d55_7 : Dc c8 7 (.getfield 15) 3 := by decide +kernel
theorem d55_10 : Dc c8 10 (.ifCond .ne 7) 3 := by decide +kernel
theorem d55_13 : Dc c8 13 (.iconst 1) 1 := by decide +kernel
theorem d55_14 : Dc c8 14 (.goto 4) 3 := by decide +kernel
theorem d55_18 : Dc c8 18 (.ireturn) 1 := by decide +kernel
def Q_rm_sil (Z : State) (a1 : Addr) (zc : Int32) (h0 : Heap) (n0 : Nat) (v : Option Value) (h : Heap) (L : List Loc) : Prop := v = some (.int (1 : Int32)) ∧ Fr n0 L ∧ h = h0
theorem rm_sil (l : Launch) (Z : State) (a0 : Array Value) (hw : Hw a0 Z) (ws : List Jvm.Cond) (a1 : Addr) (zc : Int32) (h0 : Heap) (n0 : Nat) (Z0 : n0 ≤ h0.size) (O0 : Ext Z.heap h0) (hn0 : Z.heap.size ≤ n0) (S_CS : Sta Z Z.heap "java/lang/String" "COMPACT_STRINGS" "Z" (.int zc)) (P5 : ¬ zc = (0 : Int32)) (C_a1 : Fld Z h0 a1 "java/lang/String" "coder" "B" (.int (0 : Int32))) :
    MF l y26_ jdk_42_method_154_code 1 (some .boolean) ws (rM 0 0 0 0) #[(.ref a1)] Z h0 (Q_rm_sil Z a1 zc h0 n0) := by
  refine own_bodyF n0 (plainFor_of_name pnj_55) (fun m => efj_rm_sil m a1) ?_
  intro p e s m below meth c s₁ S0 hx hby hml hZ hown hnm hret hlk X0 e0 hh N0 hK go0
  have S_N := S_CS.ext O0
  obtain ⟨T1, X1, e1, st1⟩ := getS2 X0 hx hZ hown (host := "") (Or.inl (wi hw 34 rfl)) Via.refl e0 S_N (g := (mkF m 0 #[.val (.ref a1)] [])) rfl (hb hby d55_0)
  have go2 : Go p e below T1 (mkF m 3 #[.val (.ref a1)] [(.int zc)]) S0 := fun t kt => go0 t (st1 _ kt)
  have go3 : Go p e below T1 (mkF m 7 #[.val (.ref a1)] [(.ref a1)]) S0 := by
    intro tt kt
    refine go2 tt ?_
    refine XS.ifNo X1.here hx rfl (hb hby d55_3) rfl ((if0 _ _).trans (feq P5).1) ?_
    refine XS.aloadN X1.here hx rfl (hb hby d55_6) rfl rfl ?_
    exact kt
  obtain ⟨T4, X4, e4, st4⟩ := getF X1 hx hZ hown (host := "") (Or.inl (wi hw 22 rfl)) Via.refl e1 C_a1 (g := (mkF m 7 #[.val (.ref a1)] [(.ref a1)])) rfl rfl (hb hby d55_7)
  have go5 : Go p e below T4 (mkF m 10 #[.val (.ref a1)] [(.int (0 : Int32))]) S0 := fun t kt => go3 t (st4 _ kt)
  have go6 : Go p e below T4 (mkF m 18 #[.val (.ref a1)] [(.int (1 : Int32))]) S0 := by
    intro tt kt
    refine go5 tt ?_
    refine XS.ifNo X4.here hx rfl (hb hby d55_10) rfl ((if0 _ _).trans (teq rfl).2) ?_
    refine XS.iconst X4.here hx rfl (hb hby d55_13) ?_
    refine XS.goto X4.here hx rfl (pc0 := 14) (pc' := 18) rfl (hb hby d55_14) (by decide) (by decide) ?_
    exact kt
  exact own_leaveN (t := .boolean) (by simp) X4 hx hret hlk (hb hby d55_18) go6 e4 (⟨rfl, N0, rfl⟩) (by decide) (by decide)
theorem pnj_56 : plainName "java/lang/String" = true := by first | (simp [plainName, overriddenIn]; done) | decide +kernel
theorem efj_rm_ch (m : MethodId) (a1 : Addr) (j : Nat) : entryFrame m #[(.ref a1), (.int (Int32.ofNat j))] 2 = mkF m 0 #[.val (.ref a1), .val (.int (Int32.ofNat j))] [] := by first | (simp [entryFrame, mkF, argsToLocals, Value.category]; done) | rfl
theorem d56_0 : Dc c14 0 (.aload_n 0) 1 := by decide +kernel
theorem d56_1 : Dc c14 1 (.invokevirtual 492) 3 := by decide +kernel
theorem d56_4 : Dc c14 4 (.ifCond .eq 12) 3 := by decide +kernel
theorem d56_7 : Dc c14 7 (.aload_n 0) 1 := by decide +kernel
theorem d56_8 : Dc c14 8 (.getfield 9) 3 := by decide +kernel
theorem d56_11 : Dc c14 11 (.iload_n 1) 1 := by decide +kernel
theorem d56_12 : Dc c14 12 (.invokestatic 495) 3 := by decide +kernel
theorem d56_15 : Dc c14 15 (.ireturn) 1 := by decide +kernel
def Q_rm_ch (Z : State) (a1 : Addr) (j : Nat) (t : Addr) (kt : ClassId) (fm : Value) (zc : Int32) (h0 : Heap) (n0 : Nat) (v : Option Value) (h : Heap) (L : List Loc) : Prop := v = some (.int (own_P.getD j 0)) ∧ Fr n0 L ∧ h = h0
theorem rm_ch (l : Launch) (Z : State) (a0 : Array Value) (hw : Hw a0 Z) (ws : List Jvm.Cond) (a1 : Addr) (j : Nat) (t : Addr) (kt : ClassId) (fm : Value) (zc : Int32) (h0 : Heap) (n0 : Nat) (Z0 : n0 ≤ h0.size) (O0 : Ext Z.heap h0) (hn0 : Z.heap.size ≤ n0) (S_CS : Sta Z Z.heap "java/lang/String" "COMPACT_STRINGS" "Z" (.int zc)) (P5 : ¬ zc = (0 : Int32)) (S_SI : Sta Z Z.heap "jdk/internal/util/Preconditions" "SIOOBE_FORMATTER" "Ljava/util/function/BiFunction;" fm) (rf : fm.isRef = true) (E_a1 : Exa Z h0 a1 "java/lang/String") (C_a1 : Fld Z h0 a1 "java/lang/String" "coder" "B" (.int (0 : Int32))) (V_a1 : Fld Z h0 a1 "java/lang/String" "value" "[B" (.ref t)) (A_t : Arv Z h0 t kt .byte (Int32.ofNat own_PB.length) own_PB (.int (0 : Int32))) (hj : j < 17) :
    MF l y30_ jdk_42_method_56_code 2 (some .char) ws (rM 3 0 0 40) #[(.ref a1), (.int (Int32.ofNat j))] Z h0 (Q_rm_ch Z a1 j t kt fm zc h0 n0) := by
  refine own_bodyF n0 (plainFor_of_name pnj_56) (fun m => efj_rm_ch m a1 j) ?_
  intro p e s m below meth c s₁ S0 hx hby hml hZ hown hnm hret hlk X0 e0 hh N0 hK go0
  have go1 : Go p e below s₁ (mkF m 1 #[.val (.ref a1), .val (.int (Int32.ofNat j))] [(.ref a1)]) S0 := by
    intro tt kt
    refine go0 tt ?_
    refine XS.aloadN X0.here hx rfl (hb hby d56_0) rfl rfl ?_
    exact kt
  obtain ⟨cq2, kq2, q2a, q2b, q2c⟩ := isOf hZ e0 E_a1
  obtain ⟨_, _, ⟨T2, L2, k2, n2⟩, -, X2, ⟨Lc2, hQ2, l2, y2, z2⟩, st2⟩ := X0.virtualBack hx (y := y26_) (z := y26_) hown (mvT hZ (wi hw 29 rfl)) (mvT hZ (wi hw 30 rfl)) (notFace_of_selects (args := #[]) (mvT hZ (wi hw 32 rfl))) (mvT hZ (wi hw 32 rfl)) (mvT hZ (wi hw 31 rfl)) (by decide) (backOf (W := 0) (rm_sil l Z a0 hw [] a1 zc h0 n0 Z0 O0 hn0 S_CS P5 C_a1) hZ (wi hw 33 rfl) (wi hw 4 rfl) (by decide) (by decide)) q2a q2c (g := (mkF m 1 #[.val (.ref a1), .val (.int (Int32.ofNat j))] [(.ref a1)])) rfl (by rw [hml]; rfl) (Steps.refl _) (argsL := []) (rest := []) (lenOf pd35_ rfl) rfl (by show 2 * 0 + _ ≤ _; exact Nat.le_of_eq rfl) (hb hby d56_1) (fun _ _ => ⟨rfl, e0, (by decide : 0 + 0 ≤ _), (by decide : 0 + 0 ≤ _)⟩)
  dsimp only [Pt.U, Pt.locs, Pt.cells, Pt.slots] at X2 l2 y2 z2 st2 hQ2
  subst l2 y2 z2
  obtain ⟨rfl, N2q, g2⟩ := hQ2
  rw [← g2] at O0
  rw [← g2] at E_a1 C_a1 V_a1 A_t Z0
  have N2 := Fr.app N0 N2q
  have go3 : Go p e below T2 (mkF m 4 #[.val (.ref a1), .val (.int (Int32.ofNat j))] [(.int (1 : Int32))]) S0 := fun t kt => go1 t (st2.trans kt)
  have go4 : Go p e below T2 (mkF m 8 #[.val (.ref a1), .val (.int (Int32.ofNat j))] [(.ref a1)]) S0 := by
    intro tt kt
    refine go3 tt ?_
    refine XS.ifNo X2.here hx rfl (hb hby d56_4) rfl ((if0 _ _).trans (feq (by decide)).1) ?_
    refine XS.aloadN X2.here hx rfl (hb hby d56_7) rfl rfl ?_
    exact kt
  obtain ⟨T5, X5, e5, st5⟩ := getF X2 hx hZ hown (host := "") (Or.inl (wi hw 21 rfl)) Via.refl rfl V_a1 (g := (mkF m 8 #[.val (.ref a1), .val (.int (Int32.ofNat j))] [(.ref a1)])) rfl rfl (hb hby d56_8)
  have go6 : Go p e below T5 (mkF m 11 #[.val (.ref a1), .val (.int (Int32.ofNat j))] [(.ref t)]) S0 := fun t kt => go4 t (st5 _ kt)
  have go7 : Go p e below T5 (mkF m 12 #[.val (.ref a1), .val (.int (Int32.ofNat j))] [(.int (Int32.ofNat j)), (.ref t)]) S0 := by
    intro tt kt
    refine go6 tt ?_
    refine XS.iloadN X5.here hx rfl (hb hby d56_11) rfl ?_
    exact kt
  obtain ⟨_, _, ⟨T8, L8, k8, n8⟩, -, X8, ⟨Lc8, hQ8, l8, y8, z8⟩, st8⟩ := Jvm.LawKit.callS X5 hx (y := y57_) hown (mvT hZ (wi hw 35 rfl)) (mvT hZ (wi hw 36 rfl)) (mvT hZ (wi hw 37 rfl)) (mvT hZ (wi hw 38 rfl)) (by decide) (backOf (W := 0) (rm_lch l Z a0 hw [] t j kt fm T2.heap n0 Z0 O0 hn0 S_SI rf A_t hj) hZ (wi hw 38 rfl) (wi hw 37 rfl) (by decide) (by decide)) (g := (mkF m 12 #[.val (.ref a1), .val (.int (Int32.ofNat j))] [(.int (Int32.ofNat j)), (.ref t)])) rfl (by rw [hml]; rfl) (argsL := [(.ref t), (.int (Int32.ofNat j))]) (rest := []) (lenOf pd25_ rfl) rfl (by show 2 * 0 + _ ≤ _; exact Nat.le_of_eq rfl) (hb hby d56_12) (fun _ _ => ⟨rfl, e5, (by decide : 0 + 0 ≤ _), (by decide : 0 + 0 ≤ _)⟩)
  dsimp only [Pt.U, Pt.locs, Pt.cells, Pt.slots] at X8 l8 y8 z8 st8 hQ8
  subst l8 y8 z8
  obtain ⟨rfl, N8q, g8⟩ := hQ8
  rw [← g8] at O0
  rw [← g8] at E_a1 C_a1 V_a1 A_t Z0
  have N8 := Fr.app N2 N8q
  have go9 : Go p e below T8 (mkF m 15 #[.val (.ref a1), .val (.int (Int32.ofNat j))] [(.int (own_P.getD j 0))]) S0 := fun t kt => go7 t (st8 _ kt)
  exact own_leaveN (t := .char) (by simp) X8 hx hret hlk (hb hby d56_15) go9 rfl (⟨by rw [own_chP2 j hj], N8, (g8.trans g2)⟩) (by decide) (by decide)
def own_M (j : Nat) : List Value := (own_P.take j).map Value.int ++ List.replicate (17 - j) (.int (0 : Int32))
theorem own_Ml : ∀ j, j < 18 → (own_M j).length = 17 := by decide +kernel
theorem own_Ms : ∀ j, j < 17 → (own_M j).set j (.int (nar .char (own_P.getD j 0))) = own_M (j + 1) := by decide +kernel
theorem own_Mset (j : Nat) (h : j < 17) (r : List Value) (x : Int32) (hx : x = own_P.getD j 0) : (own_M j ++ r).set j (.int (nar .char x)) = own_M (j + 1) ++ r := by
  subst hx
  rw [List.set_append_left _ _ (by rw [own_Ml j (by omega)]; exact h), own_Ms j h]
theorem own_M0 (n : Nat) : List.replicate (17 + n) (.int (0 : Int32)) = own_M 0 ++ List.replicate n (.int (0 : Int32)) := by
  rw [show own_M 0 = List.replicate 17 (.int (0 : Int32)) by decide +kernel, List.replicate_append_replicate]
theorem pd33_ : parseMethodDescriptor "(I)C" = some ⟨[.int], some .char⟩ := by decide +kernel
theorem own_pst {p : Program} {l : Launch} {e : Env} {s : State} {m : MethodId} {args : Array Value} {below : List Frame} {meth : Method} {c : Code} {T0 : State} {locs : List Loc} {cells slots : Nat} {Z : State} {a0 : Array Value} {h0 : Heap} {n0 : Nat} {zc : Int32} {fm : Value} {n j pc : Nat} {pp tp ex : Addr} {ktp kx : ClassId} {Ls : Array Slot}
    (hw : ∀ d ∈ tables_1, d.before a0 Z = true) (X0 : Stand p l e room_1 s m args below meth c T0 locs cells slots) (hx : p.tables.exec = Jvm.exec) (hZ : Z.Warmed39 s.vm) (hown : s.vm.findClass "com/example/ceresio/ceresio/StateFormatMalformedPinLaw" = some m.cls) (hml : c.maxLocals = 14) (e0 : T0.heap = h0) (Z0 : n0 ≤ h0.size) (N0 : Fr n0 locs) (hc1 : cells ≤ 21) (hc2 : slots ≤ 500) (O0 : Ext Z.heap h0) (S_CS : Sta Z Z.heap "java/lang/String" "COMPACT_STRINGS" "Z" (.int zc)) (P5 : ¬ zc = (0 : Int32)) (S_SI : Sta Z Z.heap "jdk/internal/util/Preconditions" "SIOOBE_FORMATTER" "Ljava/util/function/BiFunction;" fm) (rf : fm.isRef = true) (hn0 : Z.heap.size ≤ n0) (hb1 : decode c.code pc = .ok (.invokevirtual 15, 3)) (hb2 : decode c.code (pc + 3) = .ok (.castore, 1)) (hsz : Ls.size = 14) (hj : j < 17) (hn4 : n ≤ 4) (E_pp : Exa Z h0 pp "java/lang/String") (C_pp : Fld Z h0 pp "java/lang/String" "coder" "B" (.int (0 : Int32))) (V_pp : Fld Z h0 pp "java/lang/String" "value" "[B" (.ref tp)) (A_tp : Arv Z h0 tp ktp .byte (Int32.ofNat own_PB.length) own_PB (.int (0 : Int32))) (V_ex : Arv Z h0 ex kx .char (Int32.ofNat (17 + n)) (own_M j ++ List.replicate n (.int (0 : Int32))) (.int (0 : Int32))) (g_ex : n0 ≤ ex) :
    ∃ (T1 : State) (h1 : Heap) (locs1 : List Loc), Stand p l e room_1 s m args below meth c T1 locs1 cells slots ∧ T1.heap = h1 ∧ Fr n0 locs1 ∧ Keep h0 h1 [ex] ∧ Arv Z h1 ex kx .char (Int32.ofNat (17 + n)) (own_M (j + 1) ++ List.replicate n (.int (0 : Int32))) (.int (0 : Int32)) ∧ ∀ t, Steps p.tables e below (T1.setTop (mkF m (pc + 4) Ls [])) t → Steps p.tables e below (T0.setTop (mkF m pc Ls [(.int (Int32.ofNat j)), (.ref pp), (.int (Int32.ofNat j)), (.ref ex)])) t := by
  have go0 : Go p e below T0 (mkF m pc Ls [(.int (Int32.ofNat j)), (.ref pp), (.int (Int32.ofNat j)), (.ref ex)]) (T0.setTop (mkF m pc Ls [(.int (Int32.ofNat j)), (.ref pp), (.int (Int32.ofNat j)), (.ref ex)])) := fun t k => k
  generalize (T0.setTop (mkF m pc Ls [(.int (Int32.ofNat j)), (.ref pp), (.int (Int32.ofNat j)), (.ref ex)])) = S0 at go0 ⊢
  have K0 : Keep h0 h0 [ex] := Keep.refl h0 [ex]
  have c17 : (Int32.ofNat (17 + n)).toNatClampNeg = 17 + n := oC (by omega)
  have cj : (Int32.ofNat j).toNatClampNeg = j := oC (by omega)
  have sz_ex := g_ex
  obtain ⟨cq1, kq1, q1a, q1b, q1c⟩ := isOf hZ e0 E_pp
  obtain ⟨_, _, ⟨T1, L1, k1, n1⟩, -, X1, ⟨Lc1, hQ1, l1, y1, z1⟩, st1⟩ := X0.virtualBack hx (y := y30_) (z := y30_) hown (mvT hZ (wi hw 24 rfl)) (mvT hZ (wi hw 25 rfl)) (notFace_of_selects (args := #[]) (mvT hZ (wi hw 27 rfl))) (mvT hZ (wi hw 27 rfl)) (mvT hZ (wi hw 26 rfl)) (by decide) (backOf (W := 2) (rm_ch l Z a0 hw [] pp j tp ktp fm zc h0 n0 Z0 O0 hn0 S_CS P5 S_SI rf E_pp C_pp V_pp A_tp hj) hZ (wi hw 28 rfl) (wi hw 4 rfl) (by decide) (by decide)) q1a q1c (g := (mkF m pc Ls [(.int (Int32.ofNat j)), (.ref pp), (.int (Int32.ofNat j)), (.ref ex)])) rfl (by rw [hml]; exact hsz) (Steps.refl _) (argsL := [(.int (Int32.ofNat j))]) (rest := [(.int (Int32.ofNat j)), (.ref ex)]) (lenOf pd33_ rfl) rfl (by show 2 * 0 + _ ≤ _; exact Nat.le_of_eq rfl) hb1 (fun _ _ => ⟨rfl, e0, (by dsimp only [Pt.cells, room_1]; omega), (by dsimp only [Pt.slots, room_1]; omega)⟩)
  dsimp only [Pt.U, Pt.locs, Pt.cells, Pt.slots] at X1 l1 y1 z1 st1 hQ1
  subst l1 y1 z1
  obtain ⟨rfl, N1q, g1⟩ := hQ1
  have K0 := own_ks g1 K0
  rw [← g1] at V_ex Z0
  have N1 := Fr.app N0 N1q
  have go2 : Go p e below T1 (mkF m (pc + 3) Ls [(.int (own_P.getD j 0)), (.int (Int32.ofNat j)), (.ref ex)]) S0 := fun t kt => go0 t (st1.trans kt)
  obtain ⟨cl3, Ar3, q3, S3, N3, H3, G3⟩ := V_ex
  obtain ⟨T3, h3, X3, e3, W3, st3⟩ := stC X1 hx hZ rfl Ar3 (j := (Int32.ofNat j)) (fun q => by rw [S3] at q; exact (fun q => q.elim (oN (by omega)) fun q => by rw [c17, cj] at q; omega) q) (g := (mkF m (pc + 3) Ls [(.int (own_P.getD j 0)), (.int (Int32.ofNat j)), (.ref ex)])) rfl rfl hb2
  have V_ex : Arv Z h3 ex kx .char (Int32.ofNat (17 + n)) (own_M (j + 1) ++ List.replicate n (.int (0 : Int32))) (.int (0 : Int32)) := oA (Arv.set Ar3 q3 S3 N3 H3 G3 (fits_nar_char _) W3 (j) cj (by rw [List.length_append, own_Ml j (by omega)]; omega)) (own_Mset j hj _ _ rfl)
  have Z0 := Nat.le_trans Z0 (Keep.of_wr W3).1
  have K0 := K0.wr W3 (Or.inl (List.mem_cons_self ..))
  have N3r := Fr.snoc X3 N1 g_ex
  have go4 : Go p e below T3 (mkF m (pc + 4) Ls []) S0 := fun t kt => go2 t (st3 _ kt)
  exact ⟨T3, h3, _, X3, e3, N3r, K0, V_ex, go4⟩
theorem own_mid {p : Program} {l : Launch} {e : Env} {s : State} {m : MethodId} {args : Array Value} {below : List Frame} {meth : Method} {c : Code} {T0 : State} {locs : List Loc} {cells slots : Nat} {Z : State} {a0 : Array Value} {h0 : Heap} {n0 : Nat} {zc c0 c1 c2 c3 : Int32} {fm : Value} {n : Nat} {tl pp : Addr} {ktl : ClassId} {z0 z1 z2 z3 z4 z5 z8 : Slot}
    (hw : ∀ d ∈ tables_1, d.before a0 Z = true) (X0 : Stand p l e room_1 s m args below meth c T0 locs cells slots) (hx : p.tables.exec = Jvm.exec) (hZ : Z.Warmed39 s.vm) (hown : s.vm.findClass "com/example/ceresio/ceresio/StateFormatMalformedPinLaw" = some m.cls) (hml : c.maxLocals = 14) (e0 : T0.heap = h0) (Z0 : n0 ≤ h0.size) (N0 : Fr n0 locs) (hc1 : cells ≤ 20) (hc2 : slots ≤ 400) (O0 : Ext Z.heap h0) (S_CS : Sta Z Z.heap "java/lang/String" "COMPACT_STRINGS" "Z" (.int zc)) (P5 : ¬ zc = (0 : Int32)) (S_SI : Sta Z Z.heap "jdk/internal/util/Preconditions" "SIOOBE_FORMATTER" "Ljava/util/function/BiFunction;" fm) (rf : fm.isRef = true) (hn0 : Z.heap.size ≤ n0) (hby : c.code = code) (B_pp : Bs Z h0 pp (0 : Int32) own_PB) (V_tl : Arv Z h0 tl ktl .char (4 : Int32) [.int c0, .int c1, .int c2, .int c3] (.int (0 : Int32))) (hn : n = 0 ∨ n = 1 ∨ n = 2 ∨ n = 3 ∨ n = 4) :
    ∃ (T1 : State) (h1 : Heap) (locs1 : List Loc) (ex : Addr) (kx : ClassId), Stand p l e room_1 s m args below meth c T1 locs1 (cells + 1) (slots + 21) ∧ T1.heap = h1 ∧ Fr n0 locs1 ∧ Ext h0 h1 ∧ Arv Z h1 ex kx .char (Int32.ofNat (17 + n)) ((own_P ++ [nar .char c0, nar .char c1, nar .char c2, nar .char c3].take n).map Value.int) (.int (0 : Int32)) ∧ ∀ t, Steps p.tables e below (T1.setTop (mkF m 421 #[z0, z1, z2, z3, z4, z5, .val (.int (Int32.ofNat n)), .val (.ref tl), z8, .val (.ref pp), .val (.ref ex), .unset, .unset, .unset] [])) t → Steps p.tables e below (T0.setTop (mkF m 161 #[z0, z1, z2, z3, z4, z5, .val (.int (Int32.ofNat n)), .val (.ref tl), z8, .val (.ref pp), .unset, .unset, .unset, .unset] [])) t := by
  have go0 : Go p e below T0 (mkF m 161 #[z0, z1, z2, z3, z4, z5, .val (.int (Int32.ofNat n)), .val (.ref tl), z8, .val (.ref pp), .unset, .unset, .unset, .unset] []) (T0.setTop (mkF m 161 #[z0, z1, z2, z3, z4, z5, .val (.int (Int32.ofNat n)), .val (.ref tl), z8, .val (.ref pp), .unset, .unset, .unset, .unset] [])) := fun t k => k
  generalize (T0.setTop (mkF m 161 #[z0, z1, z2, z3, z4, z5, .val (.int (Int32.ofNat n)), .val (.ref tl), z8, .val (.ref pp), .unset, .unset, .unset, .unset] [])) = S0 at go0 ⊢
  have K0 : Keep h0 h0 [] := Keep.refl h0 []
  have hn4 : n ≤ 4 := by omega
  have lt_tl := V_tl.lt
  obtain ⟨tp, ktp, E_pp, C_pp, V_pp, A_tp⟩ := B_pp
  have go1 : Go p e below T0 (mkF m 166 #[z0, z1, z2, z3, z4, z5, .val (.int (Int32.ofNat n)), .val (.ref tl), z8, .val (.ref pp), .unset, .unset, .unset, .unset] [(.int ((17 : Int32) + (Int32.ofNat n)))]) S0 := by
    intro tt kt
    refine go0 tt ?_
    refine XS.bipush X0.here hx rfl (hb hby at_161) ?_
    refine XS.iload X0.here hx rfl (hb hby at_163) rfl ?_
    refine XS.iadd X0.here hx rfl (hb hby at_165) rfl ?_
    exact kt
  have cv2 : ((17 : Int32) + (Int32.ofNat n)) = (Int32.ofNat (17 + n)) := (own_add17 n)
  have go2 : Go p e below T0 (mkF m 166 #[z0, z1, z2, z3, z4, z5, .val (.int (Int32.ofNat n)), .val (.ref tl), z8, .val (.ref pp), .unset, .unset, .unset, .unset] [(.int (Int32.ofNat (17 + n)))]) S0 := by have q := go1; rw [cv2] at q; exact q
  obtain ⟨T3, h3, k3, X3, e3, E3, A3, st3⟩ := newP X0 hx hZ (wi hw 0 rfl) e0 (g := (mkF m 166 #[z0, z1, z2, z3, z4, z5, .val (.int (Int32.ofNat n)), .val (.ref tl), z8, .val (.ref pp), .unset, .unset, .unset, .unset] [(.int (Int32.ofNat (17 + n)))])) rfl (hb hby at_166) rfl (oN (by omega)) (cap := 21) (by rw [oC (by omega)]; exact (by omega)) (by decide) (by simp only [room_1]; omega) (by simp only [room_1]; omega)
  obtain ⟨ex, g3⟩ : ∃ z, z = h0.size := ⟨_, rfl⟩
  rw [← g3] at A3 st3
  have g_ex : n0 ≤ ex := Nat.le_trans Z0 (Nat.le_of_eq g3.symm)
  have sz_ex : h0.size ≤ ex := Nat.le_trans K0.1 (Nat.le_of_eq g3.symm)
  have Z0 := Nat.le_trans Z0 E3.1
  have K0 := K0.ext E3
  have go4 : Go p e below T3 (mkF m 168 #[z0, z1, z2, z3, z4, z5, .val (.int (Int32.ofNat n)), .val (.ref tl), z8, .val (.ref pp), .unset, .unset, .unset, .unset] [(.ref ex)]) S0 := fun t kt => go2 t (st3 _ kt)
  have V_ex : Arv Z h3 ex k3 .char (Int32.ofNat (17 + n)) (List.replicate (17 + n) (.int (0 : Int32))) (.int (0 : Int32)) := (Arv.new A3 (oN (by omega))).pad (pad_rep [] (.int (0 : Int32)) (17 + n))
  have V_ex : Arv Z h3 ex k3 .char (Int32.ofNat (17 + n)) (own_M 0 ++ List.replicate n (.int (0 : Int32))) (.int (0 : Int32)) := oA V_ex (own_M0 n)
  have c17 : (Int32.ofNat (17 + n)).toNatClampNeg = 17 + n := oC (by omega)
  have ne_tl_ex : tl ≠ ex := oR lt_tl sz_ex
  have go5 : Go p e below T3 (mkF m 176 #[z0, z1, z2, z3, z4, z5, .val (.int (Int32.ofNat n)), .val (.ref tl), z8, .val (.ref pp), .val (.ref ex), .unset, .unset, .unset] [(.int (0 : Int32)), (.ref pp), (.int (0 : Int32)), (.ref ex)]) S0 := by
    intro tt kt
    refine go4 tt ?_
    refine XS.astore X3.here hx rfl (hb hby at_168) rfl rfl (l' := #[z0, z1, z2, z3, z4, z5, .val (.int (Int32.ofNat n)), .val (.ref tl), z8, .val (.ref pp), .val (.ref ex), .unset, .unset, .unset]) rfl ?_
    refine XS.aload X3.here hx rfl (hb hby at_170) rfl rfl ?_
    refine XS.iconst X3.here hx rfl (hb hby at_172) ?_
    refine XS.aload X3.here hx rfl (hb hby at_173) rfl rfl ?_
    refine XS.iconst X3.here hx rfl (hb hby at_175) ?_
    exact kt
  have EK := oE K0
  obtain ⟨T6, h6, L6, X6, e6, N6, K6, V_ex, st6⟩ := own_pst (pc := 176) (j := 0) (Ls := #[z0, z1, z2, z3, z4, z5, .val (.int (Int32.ofNat n)), .val (.ref tl), z8, .val (.ref pp), .val (.ref ex), .unset, .unset, .unset]) hw X3 hx hZ hown hml e3 Z0 N0 (by omega) (by omega) (own_et O0 EK) S_CS P5 S_SI rf hn0 (hb hby at_176) (hb hby at_179) rfl (by decide) hn4 (E_pp.ext EK) (C_pp.ext EK) (V_pp.ext EK) (A_tp.ext EK) V_ex g_ex
  have Z0 := Nat.le_trans Z0 K6.1
  have K0 := K0.trans K6 (allS (Or.inr sz_ex) all0)
  have go6 : Go p e below T6 (mkF m 180 #[z0, z1, z2, z3, z4, z5, .val (.int (Int32.ofNat n)), .val (.ref tl), z8, .val (.ref pp), .val (.ref ex), .unset, .unset, .unset] []) S0 := fun t kt => go5 t (st6 t kt)
  have go7 : Go p e below T6 (mkF m 186 #[z0, z1, z2, z3, z4, z5, .val (.int (Int32.ofNat n)), .val (.ref tl), z8, .val (.ref pp), .val (.ref ex), .unset, .unset, .unset] [(.int (1 : Int32)), (.ref pp), (.int (1 : Int32)), (.ref ex)]) S0 := by
    intro tt kt
    refine go6 tt ?_
    refine XS.aload X6.here hx rfl (hb hby at_180) rfl rfl ?_
    refine XS.iconst X6.here hx rfl (hb hby at_182) ?_
    refine XS.aload X6.here hx rfl (hb hby at_183) rfl rfl ?_
    refine XS.iconst X6.here hx rfl (hb hby at_185) ?_
    exact kt
  have EK := oE K0
  obtain ⟨T8, h8, L8, X8, e8, N8, K8, V_ex, st8⟩ := own_pst (pc := 186) (j := 1) (Ls := #[z0, z1, z2, z3, z4, z5, .val (.int (Int32.ofNat n)), .val (.ref tl), z8, .val (.ref pp), .val (.ref ex), .unset, .unset, .unset]) hw X6 hx hZ hown hml e6 Z0 N6 (by omega) (by omega) (own_et O0 EK) S_CS P5 S_SI rf hn0 (hb hby at_186) (hb hby at_189) rfl (by decide) hn4 (E_pp.ext EK) (C_pp.ext EK) (V_pp.ext EK) (A_tp.ext EK) V_ex g_ex
  have Z0 := Nat.le_trans Z0 K8.1
  have K0 := K0.trans K8 (allS (Or.inr sz_ex) all0)
  have go8 : Go p e below T8 (mkF m 190 #[z0, z1, z2, z3, z4, z5, .val (.int (Int32.ofNat n)), .val (.ref tl), z8, .val (.ref pp), .val (.ref ex), .unset, .unset, .unset] []) S0 := fun t kt => go7 t (st8 t kt)
  have go9 : Go p e below T8 (mkF m 196 #[z0, z1, z2, z3, z4, z5, .val (.int (Int32.ofNat n)), .val (.ref tl), z8, .val (.ref pp), .val (.ref ex), .unset, .unset, .unset] [(.int (2 : Int32)), (.ref pp), (.int (2 : Int32)), (.ref ex)]) S0 := by
    intro tt kt
    refine go8 tt ?_
    refine XS.aload X8.here hx rfl (hb hby at_190) rfl rfl ?_
    refine XS.iconst X8.here hx rfl (hb hby at_192) ?_
    refine XS.aload X8.here hx rfl (hb hby at_193) rfl rfl ?_
    refine XS.iconst X8.here hx rfl (hb hby at_195) ?_
    exact kt
  have EK := oE K0
  obtain ⟨T10, h10, L10, X10, e10, N10, K10, V_ex, st10⟩ := own_pst (pc := 196) (j := 2) (Ls := #[z0, z1, z2, z3, z4, z5, .val (.int (Int32.ofNat n)), .val (.ref tl), z8, .val (.ref pp), .val (.ref ex), .unset, .unset, .unset]) hw X8 hx hZ hown hml e8 Z0 N8 (by omega) (by omega) (own_et O0 EK) S_CS P5 S_SI rf hn0 (hb hby at_196) (hb hby at_199) rfl (by decide) hn4 (E_pp.ext EK) (C_pp.ext EK) (V_pp.ext EK) (A_tp.ext EK) V_ex g_ex
  have Z0 := Nat.le_trans Z0 K10.1
  have K0 := K0.trans K10 (allS (Or.inr sz_ex) all0)
  have go10 : Go p e below T10 (mkF m 200 #[z0, z1, z2, z3, z4, z5, .val (.int (Int32.ofNat n)), .val (.ref tl), z8, .val (.ref pp), .val (.ref ex), .unset, .unset, .unset] []) S0 := fun t kt => go9 t (st10 t kt)
  have go11 : Go p e below T10 (mkF m 206 #[z0, z1, z2, z3, z4, z5, .val (.int (Int32.ofNat n)), .val (.ref tl), z8, .val (.ref pp), .val (.ref ex), .unset, .unset, .unset] [(.int (3 : Int32)), (.ref pp), (.int (3 : Int32)), (.ref ex)]) S0 := by
    intro tt kt
    refine go10 tt ?_
    refine XS.aload X10.here hx rfl (hb hby at_200) rfl rfl ?_
    refine XS.iconst X10.here hx rfl (hb hby at_202) ?_
    refine XS.aload X10.here hx rfl (hb hby at_203) rfl rfl ?_
    refine XS.iconst X10.here hx rfl (hb hby at_205) ?_
    exact kt
  have EK := oE K0
  obtain ⟨T12, h12, L12, X12, e12, N12, K12, V_ex, st12⟩ := own_pst (pc := 206) (j := 3) (Ls := #[z0, z1, z2, z3, z4, z5, .val (.int (Int32.ofNat n)), .val (.ref tl), z8, .val (.ref pp), .val (.ref ex), .unset, .unset, .unset]) hw X10 hx hZ hown hml e10 Z0 N10 (by omega) (by omega) (own_et O0 EK) S_CS P5 S_SI rf hn0 (hb hby at_206) (hb hby at_209) rfl (by decide) hn4 (E_pp.ext EK) (C_pp.ext EK) (V_pp.ext EK) (A_tp.ext EK) V_ex g_ex
  have Z0 := Nat.le_trans Z0 K12.1
  have K0 := K0.trans K12 (allS (Or.inr sz_ex) all0)
  have go12 : Go p e below T12 (mkF m 210 #[z0, z1, z2, z3, z4, z5, .val (.int (Int32.ofNat n)), .val (.ref tl), z8, .val (.ref pp), .val (.ref ex), .unset, .unset, .unset] []) S0 := fun t kt => go11 t (st12 t kt)
  have go13 : Go p e below T12 (mkF m 216 #[z0, z1, z2, z3, z4, z5, .val (.int (Int32.ofNat n)), .val (.ref tl), z8, .val (.ref pp), .val (.ref ex), .unset, .unset, .unset] [(.int (4 : Int32)), (.ref pp), (.int (4 : Int32)), (.ref ex)]) S0 := by
    intro tt kt
    refine go12 tt ?_
    refine XS.aload X12.here hx rfl (hb hby at_210) rfl rfl ?_
    refine XS.iconst X12.here hx rfl (hb hby at_212) ?_
    refine XS.aload X12.here hx rfl (hb hby at_213) rfl rfl ?_
    refine XS.iconst X12.here hx rfl (hb hby at_215) ?_
    exact kt
  have EK := oE K0
  obtain ⟨T14, h14, L14, X14, e14, N14, K14, V_ex, st14⟩ := own_pst (pc := 216) (j := 4) (Ls := #[z0, z1, z2, z3, z4, z5, .val (.int (Int32.ofNat n)), .val (.ref tl), z8, .val (.ref pp), .val (.ref ex), .unset, .unset, .unset]) hw X12 hx hZ hown hml e12 Z0 N12 (by omega) (by omega) (own_et O0 EK) S_CS P5 S_SI rf hn0 (hb hby at_216) (hb hby at_219) rfl (by decide) hn4 (E_pp.ext EK) (C_pp.ext EK) (V_pp.ext EK) (A_tp.ext EK) V_ex g_ex
  have Z0 := Nat.le_trans Z0 K14.1
  have K0 := K0.trans K14 (allS (Or.inr sz_ex) all0)
  have go14 : Go p e below T14 (mkF m 220 #[z0, z1, z2, z3, z4, z5, .val (.int (Int32.ofNat n)), .val (.ref tl), z8, .val (.ref pp), .val (.ref ex), .unset, .unset, .unset] []) S0 := fun t kt => go13 t (st14 t kt)
  have go15 : Go p e below T14 (mkF m 226 #[z0, z1, z2, z3, z4, z5, .val (.int (Int32.ofNat n)), .val (.ref tl), z8, .val (.ref pp), .val (.ref ex), .unset, .unset, .unset] [(.int (5 : Int32)), (.ref pp), (.int (5 : Int32)), (.ref ex)]) S0 := by
    intro tt kt
    refine go14 tt ?_
    refine XS.aload X14.here hx rfl (hb hby at_220) rfl rfl ?_
    refine XS.iconst X14.here hx rfl (hb hby at_222) ?_
    refine XS.aload X14.here hx rfl (hb hby at_223) rfl rfl ?_
    refine XS.iconst X14.here hx rfl (hb hby at_225) ?_
    exact kt
  have EK := oE K0
  obtain ⟨T16, h16, L16, X16, e16, N16, K16, V_ex, st16⟩ := own_pst (pc := 226) (j := 5) (Ls := #[z0, z1, z2, z3, z4, z5, .val (.int (Int32.ofNat n)), .val (.ref tl), z8, .val (.ref pp), .val (.ref ex), .unset, .unset, .unset]) hw X14 hx hZ hown hml e14 Z0 N14 (by omega) (by omega) (own_et O0 EK) S_CS P5 S_SI rf hn0 (hb hby at_226) (hb hby at_229) rfl (by decide) hn4 (E_pp.ext EK) (C_pp.ext EK) (V_pp.ext EK) (A_tp.ext EK) V_ex g_ex
  have Z0 := Nat.le_trans Z0 K16.1
  have K0 := K0.trans K16 (allS (Or.inr sz_ex) all0)
  have go16 : Go p e below T16 (mkF m 230 #[z0, z1, z2, z3, z4, z5, .val (.int (Int32.ofNat n)), .val (.ref tl), z8, .val (.ref pp), .val (.ref ex), .unset, .unset, .unset] []) S0 := fun t kt => go15 t (st16 t kt)
  have go17 : Go p e below T16 (mkF m 238 #[z0, z1, z2, z3, z4, z5, .val (.int (Int32.ofNat n)), .val (.ref tl), z8, .val (.ref pp), .val (.ref ex), .unset, .unset, .unset] [(.int (6 : Int32)), (.ref pp), (.int (6 : Int32)), (.ref ex)]) S0 := by
    intro tt kt
    refine go16 tt ?_
    refine XS.aload X16.here hx rfl (hb hby at_230) rfl rfl ?_
    refine XS.bipush X16.here hx rfl (hb hby at_232) ?_
    refine XS.aload X16.here hx rfl (hb hby at_234) rfl rfl ?_
    refine XS.bipush X16.here hx rfl (hb hby at_236) ?_
    exact kt
  have EK := oE K0
  obtain ⟨T18, h18, L18, X18, e18, N18, K18, V_ex, st18⟩ := own_pst (pc := 238) (j := 6) (Ls := #[z0, z1, z2, z3, z4, z5, .val (.int (Int32.ofNat n)), .val (.ref tl), z8, .val (.ref pp), .val (.ref ex), .unset, .unset, .unset]) hw X16 hx hZ hown hml e16 Z0 N16 (by omega) (by omega) (own_et O0 EK) S_CS P5 S_SI rf hn0 (hb hby at_238) (hb hby at_241) rfl (by decide) hn4 (E_pp.ext EK) (C_pp.ext EK) (V_pp.ext EK) (A_tp.ext EK) V_ex g_ex
  have Z0 := Nat.le_trans Z0 K18.1
  have K0 := K0.trans K18 (allS (Or.inr sz_ex) all0)
  have go18 : Go p e below T18 (mkF m 242 #[z0, z1, z2, z3, z4, z5, .val (.int (Int32.ofNat n)), .val (.ref tl), z8, .val (.ref pp), .val (.ref ex), .unset, .unset, .unset] []) S0 := fun t kt => go17 t (st18 t kt)
  have go19 : Go p e below T18 (mkF m 250 #[z0, z1, z2, z3, z4, z5, .val (.int (Int32.ofNat n)), .val (.ref tl), z8, .val (.ref pp), .val (.ref ex), .unset, .unset, .unset] [(.int (7 : Int32)), (.ref pp), (.int (7 : Int32)), (.ref ex)]) S0 := by
    intro tt kt
    refine go18 tt ?_
    refine XS.aload X18.here hx rfl (hb hby at_242) rfl rfl ?_
    refine XS.bipush X18.here hx rfl (hb hby at_244) ?_
    refine XS.aload X18.here hx rfl (hb hby at_246) rfl rfl ?_
    refine XS.bipush X18.here hx rfl (hb hby at_248) ?_
    exact kt
  have EK := oE K0
  obtain ⟨T20, h20, L20, X20, e20, N20, K20, V_ex, st20⟩ := own_pst (pc := 250) (j := 7) (Ls := #[z0, z1, z2, z3, z4, z5, .val (.int (Int32.ofNat n)), .val (.ref tl), z8, .val (.ref pp), .val (.ref ex), .unset, .unset, .unset]) hw X18 hx hZ hown hml e18 Z0 N18 (by omega) (by omega) (own_et O0 EK) S_CS P5 S_SI rf hn0 (hb hby at_250) (hb hby at_253) rfl (by decide) hn4 (E_pp.ext EK) (C_pp.ext EK) (V_pp.ext EK) (A_tp.ext EK) V_ex g_ex
  have Z0 := Nat.le_trans Z0 K20.1
  have K0 := K0.trans K20 (allS (Or.inr sz_ex) all0)
  have go20 : Go p e below T20 (mkF m 254 #[z0, z1, z2, z3, z4, z5, .val (.int (Int32.ofNat n)), .val (.ref tl), z8, .val (.ref pp), .val (.ref ex), .unset, .unset, .unset] []) S0 := fun t kt => go19 t (st20 t kt)
  have go21 : Go p e below T20 (mkF m 262 #[z0, z1, z2, z3, z4, z5, .val (.int (Int32.ofNat n)), .val (.ref tl), z8, .val (.ref pp), .val (.ref ex), .unset, .unset, .unset] [(.int (8 : Int32)), (.ref pp), (.int (8 : Int32)), (.ref ex)]) S0 := by
    intro tt kt
    refine go20 tt ?_
    refine XS.aload X20.here hx rfl (hb hby at_254) rfl rfl ?_
    refine XS.bipush X20.here hx rfl (hb hby at_256) ?_
    refine XS.aload X20.here hx rfl (hb hby at_258) rfl rfl ?_
    refine XS.bipush X20.here hx rfl (hb hby at_260) ?_
    exact kt
  have EK := oE K0
  obtain ⟨T22, h22, L22, X22, e22, N22, K22, V_ex, st22⟩ := own_pst (pc := 262) (j := 8) (Ls := #[z0, z1, z2, z3, z4, z5, .val (.int (Int32.ofNat n)), .val (.ref tl), z8, .val (.ref pp), .val (.ref ex), .unset, .unset, .unset]) hw X20 hx hZ hown hml e20 Z0 N20 (by omega) (by omega) (own_et O0 EK) S_CS P5 S_SI rf hn0 (hb hby at_262) (hb hby at_265) rfl (by decide) hn4 (E_pp.ext EK) (C_pp.ext EK) (V_pp.ext EK) (A_tp.ext EK) V_ex g_ex
  have Z0 := Nat.le_trans Z0 K22.1
  have K0 := K0.trans K22 (allS (Or.inr sz_ex) all0)
  have go22 : Go p e below T22 (mkF m 266 #[z0, z1, z2, z3, z4, z5, .val (.int (Int32.ofNat n)), .val (.ref tl), z8, .val (.ref pp), .val (.ref ex), .unset, .unset, .unset] []) S0 := fun t kt => go21 t (st22 t kt)
  have go23 : Go p e below T22 (mkF m 274 #[z0, z1, z2, z3, z4, z5, .val (.int (Int32.ofNat n)), .val (.ref tl), z8, .val (.ref pp), .val (.ref ex), .unset, .unset, .unset] [(.int (9 : Int32)), (.ref pp), (.int (9 : Int32)), (.ref ex)]) S0 := by
    intro tt kt
    refine go22 tt ?_
    refine XS.aload X22.here hx rfl (hb hby at_266) rfl rfl ?_
    refine XS.bipush X22.here hx rfl (hb hby at_268) ?_
    refine XS.aload X22.here hx rfl (hb hby at_270) rfl rfl ?_
    refine XS.bipush X22.here hx rfl (hb hby at_272) ?_
    exact kt
  have EK := oE K0
  obtain ⟨T24, h24, L24, X24, e24, N24, K24, V_ex, st24⟩ := own_pst (pc := 274) (j := 9) (Ls := #[z0, z1, z2, z3, z4, z5, .val (.int (Int32.ofNat n)), .val (.ref tl), z8, .val (.ref pp), .val (.ref ex), .unset, .unset, .unset]) hw X22 hx hZ hown hml e22 Z0 N22 (by omega) (by omega) (own_et O0 EK) S_CS P5 S_SI rf hn0 (hb hby at_274) (hb hby at_277) rfl (by decide) hn4 (E_pp.ext EK) (C_pp.ext EK) (V_pp.ext EK) (A_tp.ext EK) V_ex g_ex
  have Z0 := Nat.le_trans Z0 K24.1
  have K0 := K0.trans K24 (allS (Or.inr sz_ex) all0)
  have go24 : Go p e below T24 (mkF m 278 #[z0, z1, z2, z3, z4, z5, .val (.int (Int32.ofNat n)), .val (.ref tl), z8, .val (.ref pp), .val (.ref ex), .unset, .unset, .unset] []) S0 := fun t kt => go23 t (st24 t kt)
  have go25 : Go p e below T24 (mkF m 286 #[z0, z1, z2, z3, z4, z5, .val (.int (Int32.ofNat n)), .val (.ref tl), z8, .val (.ref pp), .val (.ref ex), .unset, .unset, .unset] [(.int (10 : Int32)), (.ref pp), (.int (10 : Int32)), (.ref ex)]) S0 := by
    intro tt kt
    refine go24 tt ?_
    refine XS.aload X24.here hx rfl (hb hby at_278) rfl rfl ?_
    refine XS.bipush X24.here hx rfl (hb hby at_280) ?_
    refine XS.aload X24.here hx rfl (hb hby at_282) rfl rfl ?_
    refine XS.bipush X24.here hx rfl (hb hby at_284) ?_
    exact kt
  have EK := oE K0
  obtain ⟨T26, h26, L26, X26, e26, N26, K26, V_ex, st26⟩ := own_pst (pc := 286) (j := 10) (Ls := #[z0, z1, z2, z3, z4, z5, .val (.int (Int32.ofNat n)), .val (.ref tl), z8, .val (.ref pp), .val (.ref ex), .unset, .unset, .unset]) hw X24 hx hZ hown hml e24 Z0 N24 (by omega) (by omega) (own_et O0 EK) S_CS P5 S_SI rf hn0 (hb hby at_286) (hb hby at_289) rfl (by decide) hn4 (E_pp.ext EK) (C_pp.ext EK) (V_pp.ext EK) (A_tp.ext EK) V_ex g_ex
  have Z0 := Nat.le_trans Z0 K26.1
  have K0 := K0.trans K26 (allS (Or.inr sz_ex) all0)
  have go26 : Go p e below T26 (mkF m 290 #[z0, z1, z2, z3, z4, z5, .val (.int (Int32.ofNat n)), .val (.ref tl), z8, .val (.ref pp), .val (.ref ex), .unset, .unset, .unset] []) S0 := fun t kt => go25 t (st26 t kt)
  have go27 : Go p e below T26 (mkF m 298 #[z0, z1, z2, z3, z4, z5, .val (.int (Int32.ofNat n)), .val (.ref tl), z8, .val (.ref pp), .val (.ref ex), .unset, .unset, .unset] [(.int (11 : Int32)), (.ref pp), (.int (11 : Int32)), (.ref ex)]) S0 := by
    intro tt kt
    refine go26 tt ?_
    refine XS.aload X26.here hx rfl (hb hby at_290) rfl rfl ?_
    refine XS.bipush X26.here hx rfl (hb hby at_292) ?_
    refine XS.aload X26.here hx rfl (hb hby at_294) rfl rfl ?_
    refine XS.bipush X26.here hx rfl (hb hby at_296) ?_
    exact kt
  have EK := oE K0
  obtain ⟨T28, h28, L28, X28, e28, N28, K28, V_ex, st28⟩ := own_pst (pc := 298) (j := 11) (Ls := #[z0, z1, z2, z3, z4, z5, .val (.int (Int32.ofNat n)), .val (.ref tl), z8, .val (.ref pp), .val (.ref ex), .unset, .unset, .unset]) hw X26 hx hZ hown hml e26 Z0 N26 (by omega) (by omega) (own_et O0 EK) S_CS P5 S_SI rf hn0 (hb hby at_298) (hb hby at_301) rfl (by decide) hn4 (E_pp.ext EK) (C_pp.ext EK) (V_pp.ext EK) (A_tp.ext EK) V_ex g_ex
  have Z0 := Nat.le_trans Z0 K28.1
  have K0 := K0.trans K28 (allS (Or.inr sz_ex) all0)
  have go28 : Go p e below T28 (mkF m 302 #[z0, z1, z2, z3, z4, z5, .val (.int (Int32.ofNat n)), .val (.ref tl), z8, .val (.ref pp), .val (.ref ex), .unset, .unset, .unset] []) S0 := fun t kt => go27 t (st28 t kt)
  have go29 : Go p e below T28 (mkF m 310 #[z0, z1, z2, z3, z4, z5, .val (.int (Int32.ofNat n)), .val (.ref tl), z8, .val (.ref pp), .val (.ref ex), .unset, .unset, .unset] [(.int (12 : Int32)), (.ref pp), (.int (12 : Int32)), (.ref ex)]) S0 := by
    intro tt kt
    refine go28 tt ?_
    refine XS.aload X28.here hx rfl (hb hby at_302) rfl rfl ?_
    refine XS.bipush X28.here hx rfl (hb hby at_304) ?_
    refine XS.aload X28.here hx rfl (hb hby at_306) rfl rfl ?_
    refine XS.bipush X28.here hx rfl (hb hby at_308) ?_
    exact kt
  have EK := oE K0
  obtain ⟨T30, h30, L30, X30, e30, N30, K30, V_ex, st30⟩ := own_pst (pc := 310) (j := 12) (Ls := #[z0, z1, z2, z3, z4, z5, .val (.int (Int32.ofNat n)), .val (.ref tl), z8, .val (.ref pp), .val (.ref ex), .unset, .unset, .unset]) hw X28 hx hZ hown hml e28 Z0 N28 (by omega) (by omega) (own_et O0 EK) S_CS P5 S_SI rf hn0 (hb hby at_310) (hb hby at_313) rfl (by decide) hn4 (E_pp.ext EK) (C_pp.ext EK) (V_pp.ext EK) (A_tp.ext EK) V_ex g_ex
  have Z0 := Nat.le_trans Z0 K30.1
  have K0 := K0.trans K30 (allS (Or.inr sz_ex) all0)
  have go30 : Go p e below T30 (mkF m 314 #[z0, z1, z2, z3, z4, z5, .val (.int (Int32.ofNat n)), .val (.ref tl), z8, .val (.ref pp), .val (.ref ex), .unset, .unset, .unset] []) S0 := fun t kt => go29 t (st30 t kt)
  have go31 : Go p e below T30 (mkF m 322 #[z0, z1, z2, z3, z4, z5, .val (.int (Int32.ofNat n)), .val (.ref tl), z8, .val (.ref pp), .val (.ref ex), .unset, .unset, .unset] [(.int (13 : Int32)), (.ref pp), (.int (13 : Int32)), (.ref ex)]) S0 := by
    intro tt kt
    refine go30 tt ?_
    refine XS.aload X30.here hx rfl (hb hby at_314) rfl rfl ?_
    refine XS.bipush X30.here hx rfl (hb hby at_316) ?_
    refine XS.aload X30.here hx rfl (hb hby at_318) rfl rfl ?_
    refine XS.bipush X30.here hx rfl (hb hby at_320) ?_
    exact kt
  have EK := oE K0
  obtain ⟨T32, h32, L32, X32, e32, N32, K32, V_ex, st32⟩ := own_pst (pc := 322) (j := 13) (Ls := #[z0, z1, z2, z3, z4, z5, .val (.int (Int32.ofNat n)), .val (.ref tl), z8, .val (.ref pp), .val (.ref ex), .unset, .unset, .unset]) hw X30 hx hZ hown hml e30 Z0 N30 (by omega) (by omega) (own_et O0 EK) S_CS P5 S_SI rf hn0 (hb hby at_322) (hb hby at_325) rfl (by decide) hn4 (E_pp.ext EK) (C_pp.ext EK) (V_pp.ext EK) (A_tp.ext EK) V_ex g_ex
  have Z0 := Nat.le_trans Z0 K32.1
  have K0 := K0.trans K32 (allS (Or.inr sz_ex) all0)
  have go32 : Go p e below T32 (mkF m 326 #[z0, z1, z2, z3, z4, z5, .val (.int (Int32.ofNat n)), .val (.ref tl), z8, .val (.ref pp), .val (.ref ex), .unset, .unset, .unset] []) S0 := fun t kt => go31 t (st32 t kt)
  have go33 : Go p e below T32 (mkF m 334 #[z0, z1, z2, z3, z4, z5, .val (.int (Int32.ofNat n)), .val (.ref tl), z8, .val (.ref pp), .val (.ref ex), .unset, .unset, .unset] [(.int (14 : Int32)), (.ref pp), (.int (14 : Int32)), (.ref ex)]) S0 := by
    intro tt kt
    refine go32 tt ?_
    refine XS.aload X32.here hx rfl (hb hby at_326) rfl rfl ?_
    refine XS.bipush X32.here hx rfl (hb hby at_328) ?_
    refine XS.aload X32.here hx rfl (hb hby at_330) rfl rfl ?_
    refine XS.bipush X32.here hx rfl (hb hby at_332) ?_
    exact kt
  have EK := oE K0
  obtain ⟨T34, h34, L34, X34, e34, N34, K34, V_ex, st34⟩ := own_pst (pc := 334) (j := 14) (Ls := #[z0, z1, z2, z3, z4, z5, .val (.int (Int32.ofNat n)), .val (.ref tl), z8, .val (.ref pp), .val (.ref ex), .unset, .unset, .unset]) hw X32 hx hZ hown hml e32 Z0 N32 (by omega) (by omega) (own_et O0 EK) S_CS P5 S_SI rf hn0 (hb hby at_334) (hb hby at_337) rfl (by decide) hn4 (E_pp.ext EK) (C_pp.ext EK) (V_pp.ext EK) (A_tp.ext EK) V_ex g_ex
  have Z0 := Nat.le_trans Z0 K34.1
  have K0 := K0.trans K34 (allS (Or.inr sz_ex) all0)
  have go34 : Go p e below T34 (mkF m 338 #[z0, z1, z2, z3, z4, z5, .val (.int (Int32.ofNat n)), .val (.ref tl), z8, .val (.ref pp), .val (.ref ex), .unset, .unset, .unset] []) S0 := fun t kt => go33 t (st34 t kt)
  have go35 : Go p e below T34 (mkF m 346 #[z0, z1, z2, z3, z4, z5, .val (.int (Int32.ofNat n)), .val (.ref tl), z8, .val (.ref pp), .val (.ref ex), .unset, .unset, .unset] [(.int (15 : Int32)), (.ref pp), (.int (15 : Int32)), (.ref ex)]) S0 := by
    intro tt kt
    refine go34 tt ?_
    refine XS.aload X34.here hx rfl (hb hby at_338) rfl rfl ?_
    refine XS.bipush X34.here hx rfl (hb hby at_340) ?_
    refine XS.aload X34.here hx rfl (hb hby at_342) rfl rfl ?_
    refine XS.bipush X34.here hx rfl (hb hby at_344) ?_
    exact kt
  have EK := oE K0
  obtain ⟨T36, h36, L36, X36, e36, N36, K36, V_ex, st36⟩ := own_pst (pc := 346) (j := 15) (Ls := #[z0, z1, z2, z3, z4, z5, .val (.int (Int32.ofNat n)), .val (.ref tl), z8, .val (.ref pp), .val (.ref ex), .unset, .unset, .unset]) hw X34 hx hZ hown hml e34 Z0 N34 (by omega) (by omega) (own_et O0 EK) S_CS P5 S_SI rf hn0 (hb hby at_346) (hb hby at_349) rfl (by decide) hn4 (E_pp.ext EK) (C_pp.ext EK) (V_pp.ext EK) (A_tp.ext EK) V_ex g_ex
  have Z0 := Nat.le_trans Z0 K36.1
  have K0 := K0.trans K36 (allS (Or.inr sz_ex) all0)
  have go36 : Go p e below T36 (mkF m 350 #[z0, z1, z2, z3, z4, z5, .val (.int (Int32.ofNat n)), .val (.ref tl), z8, .val (.ref pp), .val (.ref ex), .unset, .unset, .unset] []) S0 := fun t kt => go35 t (st36 t kt)
  have go37 : Go p e below T36 (mkF m 358 #[z0, z1, z2, z3, z4, z5, .val (.int (Int32.ofNat n)), .val (.ref tl), z8, .val (.ref pp), .val (.ref ex), .unset, .unset, .unset] [(.int (16 : Int32)), (.ref pp), (.int (16 : Int32)), (.ref ex)]) S0 := by
    intro tt kt
    refine go36 tt ?_
    refine XS.aload X36.here hx rfl (hb hby at_350) rfl rfl ?_
    refine XS.bipush X36.here hx rfl (hb hby at_352) ?_
    refine XS.aload X36.here hx rfl (hb hby at_354) rfl rfl ?_
    refine XS.bipush X36.here hx rfl (hb hby at_356) ?_
    exact kt
  have EK := oE K0
  obtain ⟨T38, h38, L38, X38, e38, N38, K38, V_ex, st38⟩ := own_pst (pc := 358) (j := 16) (Ls := #[z0, z1, z2, z3, z4, z5, .val (.int (Int32.ofNat n)), .val (.ref tl), z8, .val (.ref pp), .val (.ref ex), .unset, .unset, .unset]) hw X36 hx hZ hown hml e36 Z0 N36 (by omega) (by omega) (own_et O0 EK) S_CS P5 S_SI rf hn0 (hb hby at_358) (hb hby at_361) rfl (by decide) hn4 (E_pp.ext EK) (C_pp.ext EK) (V_pp.ext EK) (A_tp.ext EK) V_ex g_ex
  have Z0 := Nat.le_trans Z0 K38.1
  have K0 := K0.trans K38 (allS (Or.inr sz_ex) all0)
  have go38 : Go p e below T38 (mkF m 362 #[z0, z1, z2, z3, z4, z5, .val (.int (Int32.ofNat n)), .val (.ref tl), z8, .val (.ref pp), .val (.ref ex), .unset, .unset, .unset] []) S0 := fun t kt => go37 t (st38 t kt)
  have go39 : Go p e below T38 (mkF m 364 #[z0, z1, z2, z3, z4, z5, .val (.int (Int32.ofNat n)), .val (.ref tl), z8, .val (.ref pp), .val (.ref ex), .unset, .unset, .unset] [(.int (Int32.ofNat n))]) S0 := by
    intro tt kt
    refine go38 tt ?_
    refine XS.iload X38.here hx rfl (hb hby at_362) rfl ?_
    exact kt
  have V_tl := V_tl.ext (oE K0)
  rcases hn with rfl | rfl | rfl | rfl | rfl
  · have go40 : Go p e below T38 (mkF m 364 #[z0, z1, z2, z3, z4, z5, .val (.int (0 : Int32)), .val (.ref tl), z8, .val (.ref pp), .val (.ref ex), .unset, .unset, .unset] [(.int (0 : Int32))]) S0 := go39
    have go41 : Go p e below T38 (mkF m 421 #[z0, z1, z2, z3, z4, z5, .val (.int (0 : Int32)), .val (.ref tl), z8, .val (.ref pp), .val (.ref ex), .unset, .unset, .unset] []) S0 := by
      intro tt kt
      refine go40 tt ?_
      refine XS.ifYes X38.here hx rfl (pc0 := 364) (pc' := 376) rfl (hb hby at_364) rfl ((if0 _ _).trans (flt (by decide)).2.2.2) (by decide) (by decide) ?_
      refine XS.iload X38.here hx rfl (hb hby at_376) rfl ?_
      refine XS.iconst X38.here hx rfl (hb hby at_378) ?_
      refine XS.icmpYes X38.here hx rfl (pc0 := 379) (pc' := 391) rfl (hb hby at_379) rfl (flt (by decide)).2.2.2 (by decide) (by decide) ?_
      refine XS.iload X38.here hx rfl (hb hby at_391) rfl ?_
      refine XS.iconst X38.here hx rfl (hb hby at_393) ?_
      refine XS.icmpYes X38.here hx rfl (pc0 := 394) (pc' := 406) rfl (hb hby at_394) rfl (flt (by decide)).2.2.2 (by decide) (by decide) ?_
      refine XS.iload X38.here hx rfl (hb hby at_406) rfl ?_
      refine XS.iconst X38.here hx rfl (hb hby at_408) ?_
      refine XS.icmpYes X38.here hx rfl (pc0 := 409) (pc' := 421) rfl (hb hby at_409) rfl (flt (by decide)).2.2.2 (by decide) (by decide) ?_
      exact kt
    exact ⟨T38, h38, _, ex, k3, X38, e38, N38, oE K0, oA V_ex rfl, go41⟩
  · have go42 : Go p e below T38 (mkF m 364 #[z0, z1, z2, z3, z4, z5, .val (.int (1 : Int32)), .val (.ref tl), z8, .val (.ref pp), .val (.ref ex), .unset, .unset, .unset] [(.int (1 : Int32))]) S0 := go39
    have go43 : Go p e below T38 (mkF m 374 #[z0, z1, z2, z3, z4, z5, .val (.int (1 : Int32)), .val (.ref tl), z8, .val (.ref pp), .val (.ref ex), .unset, .unset, .unset] [(.int (0 : Int32)), (.ref tl), (.int (17 : Int32)), (.ref ex)]) S0 := by
      intro tt kt
      refine go42 tt ?_
      refine XS.ifNo X38.here hx rfl (hb hby at_364) rfl ((if0 _ _).trans (tlt (by decide)).2.2.2) ?_
      refine XS.aload X38.here hx rfl (hb hby at_367) rfl rfl ?_
      refine XS.bipush X38.here hx rfl (hb hby at_369) ?_
      refine XS.aload X38.here hx rfl (hb hby at_371) rfl rfl ?_
      refine XS.iconst X38.here hx rfl (hb hby at_373) ?_
      exact kt
    obtain ⟨cl44, Ar44, q44, S44, N44, H44, G44⟩ := id V_tl
    have go45 : Go p e below T38 (mkF m 375 #[z0, z1, z2, z3, z4, z5, .val (.int (1 : Int32)), .val (.ref tl), z8, .val (.ref pp), .val (.ref ex), .unset, .unset, .unset] [(.int c0), (.int (17 : Int32)), (.ref ex)]) S0 := by
      intro tt kt
      refine go43 tt ?_
      refine X38.caload hx (j := (0 : Int32)) (v := (.int c0)) (by rw [e38]; exact Ar44.1) (State.isArrayOf_alike hZ.alike Ar44.2.1) Ar44.2.2 (inb_of S44 ⟨by decide, by decide⟩) (H44 0 (by rw [S44]; decide)) (g := (mkF m 374 #[z0, z1, z2, z3, z4, z5, .val (.int (1 : Int32)), .val (.ref tl), z8, .val (.ref pp), .val (.ref ex), .unset, .unset, .unset] [(.int (0 : Int32)), (.ref tl), (.int (17 : Int32)), (.ref ex)])) rfl rfl (hb hby at_374) _ ?_
      exact kt
    obtain ⟨cl46, Ar46, q46, S46, N46, H46, G46⟩ := V_ex
    obtain ⟨T46, h46, X46, e46, W46, st46⟩ := stC X38 hx hZ e38 Ar46 (j := (17 : Int32)) (fun q => by rw [S46] at q; exact (fun q => q.elim (by decide) fun q => by rw [c17] at q; have e : (17 : Int32).toNatClampNeg = 17 := rfl; omega) q) (g := (mkF m 375 #[z0, z1, z2, z3, z4, z5, .val (.int (1 : Int32)), .val (.ref tl), z8, .val (.ref pp), .val (.ref ex), .unset, .unset, .unset] [(.int c0), (.int (17 : Int32)), (.ref ex)])) rfl rfl (hb hby at_375)
    have V_tl := V_tl.other W46 ne_tl_ex
    have V_ex : Arv Z h46 ex k3 .char (Int32.ofNat (17 + 1)) ((own_M 17 ++ List.replicate 1 (Value.int (0 : Int32))).set 17 (Value.int (nar .char c0))) (.int (0 : Int32)) := oA (Arv.set Ar46 q46 S46 N46 H46 G46 (fits_nar_char _) W46 (17) rfl (by simp only [List.length_set, List.length_append, List.length_replicate, own_Ml 17 (by decide)]; omega)) rfl
    have Z0 := Nat.le_trans Z0 (Keep.of_wr W46).1
    have K0 := K0.wr W46 (Or.inr sz_ex)
    have N46r := Fr.snoc X46 N38 g_ex
    have go47 : Go p e below T46 (mkF m 376 #[z0, z1, z2, z3, z4, z5, .val (.int (1 : Int32)), .val (.ref tl), z8, .val (.ref pp), .val (.ref ex), .unset, .unset, .unset] []) S0 := fun t kt => go45 t (st46 _ kt)
    have go48 : Go p e below T46 (mkF m 421 #[z0, z1, z2, z3, z4, z5, .val (.int (1 : Int32)), .val (.ref tl), z8, .val (.ref pp), .val (.ref ex), .unset, .unset, .unset] []) S0 := by
      intro tt kt
      refine go47 tt ?_
      refine XS.iload X46.here hx rfl (hb hby at_376) rfl ?_
      refine XS.iconst X46.here hx rfl (hb hby at_378) ?_
      refine XS.icmpYes X46.here hx rfl (pc0 := 379) (pc' := 391) rfl (hb hby at_379) rfl (flt (by decide)).2.2.2 (by decide) (by decide) ?_
      refine XS.iload X46.here hx rfl (hb hby at_391) rfl ?_
      refine XS.iconst X46.here hx rfl (hb hby at_393) ?_
      refine XS.icmpYes X46.here hx rfl (pc0 := 394) (pc' := 406) rfl (hb hby at_394) rfl (flt (by decide)).2.2.2 (by decide) (by decide) ?_
      refine XS.iload X46.here hx rfl (hb hby at_406) rfl ?_
      refine XS.iconst X46.here hx rfl (hb hby at_408) ?_
      refine XS.icmpYes X46.here hx rfl (pc0 := 409) (pc' := 421) rfl (hb hby at_409) rfl (flt (by decide)).2.2.2 (by decide) (by decide) ?_
      exact kt
    exact ⟨T46, h46, _, ex, k3, X46, e46, N46r, oE K0, oA V_ex rfl, go48⟩
  · have go49 : Go p e below T38 (mkF m 364 #[z0, z1, z2, z3, z4, z5, .val (.int (2 : Int32)), .val (.ref tl), z8, .val (.ref pp), .val (.ref ex), .unset, .unset, .unset] [(.int (2 : Int32))]) S0 := go39
    have go50 : Go p e below T38 (mkF m 374 #[z0, z1, z2, z3, z4, z5, .val (.int (2 : Int32)), .val (.ref tl), z8, .val (.ref pp), .val (.ref ex), .unset, .unset, .unset] [(.int (0 : Int32)), (.ref tl), (.int (17 : Int32)), (.ref ex)]) S0 := by
      intro tt kt
      refine go49 tt ?_
      refine XS.ifNo X38.here hx rfl (hb hby at_364) rfl ((if0 _ _).trans (tlt (by decide)).2.2.2) ?_
      refine XS.aload X38.here hx rfl (hb hby at_367) rfl rfl ?_
      refine XS.bipush X38.here hx rfl (hb hby at_369) ?_
      refine XS.aload X38.here hx rfl (hb hby at_371) rfl rfl ?_
      refine XS.iconst X38.here hx rfl (hb hby at_373) ?_
      exact kt
    obtain ⟨cl51, Ar51, q51, S51, N51, H51, G51⟩ := id V_tl
    have go52 : Go p e below T38 (mkF m 375 #[z0, z1, z2, z3, z4, z5, .val (.int (2 : Int32)), .val (.ref tl), z8, .val (.ref pp), .val (.ref ex), .unset, .unset, .unset] [(.int c0), (.int (17 : Int32)), (.ref ex)]) S0 := by
      intro tt kt
      refine go50 tt ?_
      refine X38.caload hx (j := (0 : Int32)) (v := (.int c0)) (by rw [e38]; exact Ar51.1) (State.isArrayOf_alike hZ.alike Ar51.2.1) Ar51.2.2 (inb_of S51 ⟨by decide, by decide⟩) (H51 0 (by rw [S51]; decide)) (g := (mkF m 374 #[z0, z1, z2, z3, z4, z5, .val (.int (2 : Int32)), .val (.ref tl), z8, .val (.ref pp), .val (.ref ex), .unset, .unset, .unset] [(.int (0 : Int32)), (.ref tl), (.int (17 : Int32)), (.ref ex)])) rfl rfl (hb hby at_374) _ ?_
      exact kt
    obtain ⟨cl53, Ar53, q53, S53, N53, H53, G53⟩ := V_ex
    obtain ⟨T53, h53, X53, e53, W53, st53⟩ := stC X38 hx hZ e38 Ar53 (j := (17 : Int32)) (fun q => by rw [S53] at q; exact (fun q => q.elim (by decide) fun q => by rw [c17] at q; have e : (17 : Int32).toNatClampNeg = 17 := rfl; omega) q) (g := (mkF m 375 #[z0, z1, z2, z3, z4, z5, .val (.int (2 : Int32)), .val (.ref tl), z8, .val (.ref pp), .val (.ref ex), .unset, .unset, .unset] [(.int c0), (.int (17 : Int32)), (.ref ex)])) rfl rfl (hb hby at_375)
    have V_tl := V_tl.other W53 ne_tl_ex
    have V_ex : Arv Z h53 ex k3 .char (Int32.ofNat (17 + 2)) ((own_M 17 ++ List.replicate 2 (Value.int (0 : Int32))).set 17 (Value.int (nar .char c0))) (.int (0 : Int32)) := oA (Arv.set Ar53 q53 S53 N53 H53 G53 (fits_nar_char _) W53 (17) rfl (by simp only [List.length_set, List.length_append, List.length_replicate, own_Ml 17 (by decide)]; omega)) rfl
    have Z0 := Nat.le_trans Z0 (Keep.of_wr W53).1
    have K0 := K0.wr W53 (Or.inr sz_ex)
    have N53r := Fr.snoc X53 N38 g_ex
    have go54 : Go p e below T53 (mkF m 376 #[z0, z1, z2, z3, z4, z5, .val (.int (2 : Int32)), .val (.ref tl), z8, .val (.ref pp), .val (.ref ex), .unset, .unset, .unset] []) S0 := fun t kt => go52 t (st53 _ kt)
    have go55 : Go p e below T53 (mkF m 389 #[z0, z1, z2, z3, z4, z5, .val (.int (2 : Int32)), .val (.ref tl), z8, .val (.ref pp), .val (.ref ex), .unset, .unset, .unset] [(.int (1 : Int32)), (.ref tl), (.int (18 : Int32)), (.ref ex)]) S0 := by
      intro tt kt
      refine go54 tt ?_
      refine XS.iload X53.here hx rfl (hb hby at_376) rfl ?_
      refine XS.iconst X53.here hx rfl (hb hby at_378) ?_
      refine XS.icmpNo X53.here hx rfl (hb hby at_379) rfl (tlt (by decide)).2.2.2 ?_
      refine XS.aload X53.here hx rfl (hb hby at_382) rfl rfl ?_
      refine XS.bipush X53.here hx rfl (hb hby at_384) ?_
      refine XS.aload X53.here hx rfl (hb hby at_386) rfl rfl ?_
      refine XS.iconst X53.here hx rfl (hb hby at_388) ?_
      exact kt
    obtain ⟨cl56, Ar56, q56, S56, N56, H56, G56⟩ := id V_tl
    have go57 : Go p e below T53 (mkF m 390 #[z0, z1, z2, z3, z4, z5, .val (.int (2 : Int32)), .val (.ref tl), z8, .val (.ref pp), .val (.ref ex), .unset, .unset, .unset] [(.int c1), (.int (18 : Int32)), (.ref ex)]) S0 := by
      intro tt kt
      refine go55 tt ?_
      refine X53.caload hx (j := (1 : Int32)) (v := (.int c1)) (by rw [e53]; exact Ar56.1) (State.isArrayOf_alike hZ.alike Ar56.2.1) Ar56.2.2 (inb_of S56 ⟨by decide, by decide⟩) (H56 1 (by rw [S56]; decide)) (g := (mkF m 389 #[z0, z1, z2, z3, z4, z5, .val (.int (2 : Int32)), .val (.ref tl), z8, .val (.ref pp), .val (.ref ex), .unset, .unset, .unset] [(.int (1 : Int32)), (.ref tl), (.int (18 : Int32)), (.ref ex)])) rfl rfl (hb hby at_389) _ ?_
      exact kt
    obtain ⟨cl58, Ar58, q58, S58, N58, H58, G58⟩ := V_ex
    obtain ⟨T58, h58, X58, e58, W58, st58⟩ := stC X53 hx hZ e53 Ar58 (j := (18 : Int32)) (fun q => by rw [S58] at q; exact (fun q => q.elim (by decide) fun q => by rw [c17] at q; have e : (18 : Int32).toNatClampNeg = 18 := rfl; omega) q) (g := (mkF m 390 #[z0, z1, z2, z3, z4, z5, .val (.int (2 : Int32)), .val (.ref tl), z8, .val (.ref pp), .val (.ref ex), .unset, .unset, .unset] [(.int c1), (.int (18 : Int32)), (.ref ex)])) rfl rfl (hb hby at_390)
    have V_tl := V_tl.other W58 ne_tl_ex
    have V_ex : Arv Z h58 ex k3 .char (Int32.ofNat (17 + 2)) (((own_M 17 ++ List.replicate 2 (Value.int (0 : Int32))).set 17 (Value.int (nar .char c0))).set 18 (Value.int (nar .char c1))) (.int (0 : Int32)) := oA (Arv.set Ar58 q58 S58 N58 H58 G58 (fits_nar_char _) W58 (18) rfl (by simp only [List.length_set, List.length_append, List.length_replicate, own_Ml 17 (by decide)]; omega)) rfl
    have Z0 := Nat.le_trans Z0 (Keep.of_wr W58).1
    have K0 := K0.wr W58 (Or.inr sz_ex)
    have N58r := Fr.snoc X58 N53r g_ex
    have go59 : Go p e below T58 (mkF m 391 #[z0, z1, z2, z3, z4, z5, .val (.int (2 : Int32)), .val (.ref tl), z8, .val (.ref pp), .val (.ref ex), .unset, .unset, .unset] []) S0 := fun t kt => go57 t (st58 _ kt)
    have go60 : Go p e below T58 (mkF m 421 #[z0, z1, z2, z3, z4, z5, .val (.int (2 : Int32)), .val (.ref tl), z8, .val (.ref pp), .val (.ref ex), .unset, .unset, .unset] []) S0 := by
      intro tt kt
      refine go59 tt ?_
      refine XS.iload X58.here hx rfl (hb hby at_391) rfl ?_
      refine XS.iconst X58.here hx rfl (hb hby at_393) ?_
      refine XS.icmpYes X58.here hx rfl (pc0 := 394) (pc' := 406) rfl (hb hby at_394) rfl (flt (by decide)).2.2.2 (by decide) (by decide) ?_
      refine XS.iload X58.here hx rfl (hb hby at_406) rfl ?_
      refine XS.iconst X58.here hx rfl (hb hby at_408) ?_
      refine XS.icmpYes X58.here hx rfl (pc0 := 409) (pc' := 421) rfl (hb hby at_409) rfl (flt (by decide)).2.2.2 (by decide) (by decide) ?_
      exact kt
    exact ⟨T58, h58, _, ex, k3, X58, e58, N58r, oE K0, oA V_ex rfl, go60⟩
  · have go61 : Go p e below T38 (mkF m 364 #[z0, z1, z2, z3, z4, z5, .val (.int (3 : Int32)), .val (.ref tl), z8, .val (.ref pp), .val (.ref ex), .unset, .unset, .unset] [(.int (3 : Int32))]) S0 := go39
    have go62 : Go p e below T38 (mkF m 374 #[z0, z1, z2, z3, z4, z5, .val (.int (3 : Int32)), .val (.ref tl), z8, .val (.ref pp), .val (.ref ex), .unset, .unset, .unset] [(.int (0 : Int32)), (.ref tl), (.int (17 : Int32)), (.ref ex)]) S0 := by
      intro tt kt
      refine go61 tt ?_
      refine XS.ifNo X38.here hx rfl (hb hby at_364) rfl ((if0 _ _).trans (tlt (by decide)).2.2.2) ?_
      refine XS.aload X38.here hx rfl (hb hby at_367) rfl rfl ?_
      refine XS.bipush X38.here hx rfl (hb hby at_369) ?_
      refine XS.aload X38.here hx rfl (hb hby at_371) rfl rfl ?_
      refine XS.iconst X38.here hx rfl (hb hby at_373) ?_
      exact kt
    obtain ⟨cl63, Ar63, q63, S63, N63, H63, G63⟩ := id V_tl
    have go64 : Go p e below T38 (mkF m 375 #[z0, z1, z2, z3, z4, z5, .val (.int (3 : Int32)), .val (.ref tl), z8, .val (.ref pp), .val (.ref ex), .unset, .unset, .unset] [(.int c0), (.int (17 : Int32)), (.ref ex)]) S0 := by
      intro tt kt
      refine go62 tt ?_
      refine X38.caload hx (j := (0 : Int32)) (v := (.int c0)) (by rw [e38]; exact Ar63.1) (State.isArrayOf_alike hZ.alike Ar63.2.1) Ar63.2.2 (inb_of S63 ⟨by decide, by decide⟩) (H63 0 (by rw [S63]; decide)) (g := (mkF m 374 #[z0, z1, z2, z3, z4, z5, .val (.int (3 : Int32)), .val (.ref tl), z8, .val (.ref pp), .val (.ref ex), .unset, .unset, .unset] [(.int (0 : Int32)), (.ref tl), (.int (17 : Int32)), (.ref ex)])) rfl rfl (hb hby at_374) _ ?_
      exact kt
    obtain ⟨cl65, Ar65, q65, S65, N65, H65, G65⟩ := V_ex
    obtain ⟨T65, h65, X65, e65, W65, st65⟩ := stC X38 hx hZ e38 Ar65 (j := (17 : Int32)) (fun q => by rw [S65] at q; exact (fun q => q.elim (by decide) fun q => by rw [c17] at q; have e : (17 : Int32).toNatClampNeg = 17 := rfl; omega) q) (g := (mkF m 375 #[z0, z1, z2, z3, z4, z5, .val (.int (3 : Int32)), .val (.ref tl), z8, .val (.ref pp), .val (.ref ex), .unset, .unset, .unset] [(.int c0), (.int (17 : Int32)), (.ref ex)])) rfl rfl (hb hby at_375)
    have V_tl := V_tl.other W65 ne_tl_ex
    have V_ex : Arv Z h65 ex k3 .char (Int32.ofNat (17 + 3)) ((own_M 17 ++ List.replicate 3 (Value.int (0 : Int32))).set 17 (Value.int (nar .char c0))) (.int (0 : Int32)) := oA (Arv.set Ar65 q65 S65 N65 H65 G65 (fits_nar_char _) W65 (17) rfl (by simp only [List.length_set, List.length_append, List.length_replicate, own_Ml 17 (by decide)]; omega)) rfl
    have Z0 := Nat.le_trans Z0 (Keep.of_wr W65).1
    have K0 := K0.wr W65 (Or.inr sz_ex)
    have N65r := Fr.snoc X65 N38 g_ex
    have go66 : Go p e below T65 (mkF m 376 #[z0, z1, z2, z3, z4, z5, .val (.int (3 : Int32)), .val (.ref tl), z8, .val (.ref pp), .val (.ref ex), .unset, .unset, .unset] []) S0 := fun t kt => go64 t (st65 _ kt)
    have go67 : Go p e below T65 (mkF m 389 #[z0, z1, z2, z3, z4, z5, .val (.int (3 : Int32)), .val (.ref tl), z8, .val (.ref pp), .val (.ref ex), .unset, .unset, .unset] [(.int (1 : Int32)), (.ref tl), (.int (18 : Int32)), (.ref ex)]) S0 := by
      intro tt kt
      refine go66 tt ?_
      refine XS.iload X65.here hx rfl (hb hby at_376) rfl ?_
      refine XS.iconst X65.here hx rfl (hb hby at_378) ?_
      refine XS.icmpNo X65.here hx rfl (hb hby at_379) rfl (tlt (by decide)).2.2.2 ?_
      refine XS.aload X65.here hx rfl (hb hby at_382) rfl rfl ?_
      refine XS.bipush X65.here hx rfl (hb hby at_384) ?_
      refine XS.aload X65.here hx rfl (hb hby at_386) rfl rfl ?_
      refine XS.iconst X65.here hx rfl (hb hby at_388) ?_
      exact kt
    obtain ⟨cl68, Ar68, q68, S68, N68, H68, G68⟩ := id V_tl
    have go69 : Go p e below T65 (mkF m 390 #[z0, z1, z2, z3, z4, z5, .val (.int (3 : Int32)), .val (.ref tl), z8, .val (.ref pp), .val (.ref ex), .unset, .unset, .unset] [(.int c1), (.int (18 : Int32)), (.ref ex)]) S0 := by
      intro tt kt
      refine go67 tt ?_
      refine X65.caload hx (j := (1 : Int32)) (v := (.int c1)) (by rw [e65]; exact Ar68.1) (State.isArrayOf_alike hZ.alike Ar68.2.1) Ar68.2.2 (inb_of S68 ⟨by decide, by decide⟩) (H68 1 (by rw [S68]; decide)) (g := (mkF m 389 #[z0, z1, z2, z3, z4, z5, .val (.int (3 : Int32)), .val (.ref tl), z8, .val (.ref pp), .val (.ref ex), .unset, .unset, .unset] [(.int (1 : Int32)), (.ref tl), (.int (18 : Int32)), (.ref ex)])) rfl rfl (hb hby at_389) _ ?_
      exact kt
    obtain ⟨cl70, Ar70, q70, S70, N70, H70, G70⟩ := V_ex
    obtain ⟨T70, h70, X70, e70, W70, st70⟩ := stC X65 hx hZ e65 Ar70 (j := (18 : Int32)) (fun q => by rw [S70] at q; exact (fun q => q.elim (by decide) fun q => by rw [c17] at q; have e : (18 : Int32).toNatClampNeg = 18 := rfl; omega) q) (g := (mkF m 390 #[z0, z1, z2, z3, z4, z5, .val (.int (3 : Int32)), .val (.ref tl), z8, .val (.ref pp), .val (.ref ex), .unset, .unset, .unset] [(.int c1), (.int (18 : Int32)), (.ref ex)])) rfl rfl (hb hby at_390)
    have V_tl := V_tl.other W70 ne_tl_ex
    have V_ex : Arv Z h70 ex k3 .char (Int32.ofNat (17 + 3)) (((own_M 17 ++ List.replicate 3 (Value.int (0 : Int32))).set 17 (Value.int (nar .char c0))).set 18 (Value.int (nar .char c1))) (.int (0 : Int32)) := oA (Arv.set Ar70 q70 S70 N70 H70 G70 (fits_nar_char _) W70 (18) rfl (by simp only [List.length_set, List.length_append, List.length_replicate, own_Ml 17 (by decide)]; omega)) rfl
    have Z0 := Nat.le_trans Z0 (Keep.of_wr W70).1
    have K0 := K0.wr W70 (Or.inr sz_ex)
    have N70r := Fr.snoc X70 N65r g_ex
    have go71 : Go p e below T70 (mkF m 391 #[z0, z1, z2, z3, z4, z5, .val (.int (3 : Int32)), .val (.ref tl), z8, .val (.ref pp), .val (.ref ex), .unset, .unset, .unset] []) S0 := fun t kt => go69 t (st70 _ kt)
    have go72 : Go p e below T70 (mkF m 404 #[z0, z1, z2, z3, z4, z5, .val (.int (3 : Int32)), .val (.ref tl), z8, .val (.ref pp), .val (.ref ex), .unset, .unset, .unset] [(.int (2 : Int32)), (.ref tl), (.int (19 : Int32)), (.ref ex)]) S0 := by
      intro tt kt
      refine go71 tt ?_
      refine XS.iload X70.here hx rfl (hb hby at_391) rfl ?_
      refine XS.iconst X70.here hx rfl (hb hby at_393) ?_
      refine XS.icmpNo X70.here hx rfl (hb hby at_394) rfl (tlt (by decide)).2.2.2 ?_
      refine XS.aload X70.here hx rfl (hb hby at_397) rfl rfl ?_
      refine XS.bipush X70.here hx rfl (hb hby at_399) ?_
      refine XS.aload X70.here hx rfl (hb hby at_401) rfl rfl ?_
      refine XS.iconst X70.here hx rfl (hb hby at_403) ?_
      exact kt
    obtain ⟨cl73, Ar73, q73, S73, N73, H73, G73⟩ := id V_tl
    have go74 : Go p e below T70 (mkF m 405 #[z0, z1, z2, z3, z4, z5, .val (.int (3 : Int32)), .val (.ref tl), z8, .val (.ref pp), .val (.ref ex), .unset, .unset, .unset] [(.int c2), (.int (19 : Int32)), (.ref ex)]) S0 := by
      intro tt kt
      refine go72 tt ?_
      refine X70.caload hx (j := (2 : Int32)) (v := (.int c2)) (by rw [e70]; exact Ar73.1) (State.isArrayOf_alike hZ.alike Ar73.2.1) Ar73.2.2 (inb_of S73 ⟨by decide, by decide⟩) (H73 2 (by rw [S73]; decide)) (g := (mkF m 404 #[z0, z1, z2, z3, z4, z5, .val (.int (3 : Int32)), .val (.ref tl), z8, .val (.ref pp), .val (.ref ex), .unset, .unset, .unset] [(.int (2 : Int32)), (.ref tl), (.int (19 : Int32)), (.ref ex)])) rfl rfl (hb hby at_404) _ ?_
      exact kt
    obtain ⟨cl75, Ar75, q75, S75, N75, H75, G75⟩ := V_ex
    obtain ⟨T75, h75, X75, e75, W75, st75⟩ := stC X70 hx hZ e70 Ar75 (j := (19 : Int32)) (fun q => by rw [S75] at q; exact (fun q => q.elim (by decide) fun q => by rw [c17] at q; have e : (19 : Int32).toNatClampNeg = 19 := rfl; omega) q) (g := (mkF m 405 #[z0, z1, z2, z3, z4, z5, .val (.int (3 : Int32)), .val (.ref tl), z8, .val (.ref pp), .val (.ref ex), .unset, .unset, .unset] [(.int c2), (.int (19 : Int32)), (.ref ex)])) rfl rfl (hb hby at_405)
    have V_tl := V_tl.other W75 ne_tl_ex
    have V_ex : Arv Z h75 ex k3 .char (Int32.ofNat (17 + 3)) ((((own_M 17 ++ List.replicate 3 (Value.int (0 : Int32))).set 17 (Value.int (nar .char c0))).set 18 (Value.int (nar .char c1))).set 19 (Value.int (nar .char c2))) (.int (0 : Int32)) := oA (Arv.set Ar75 q75 S75 N75 H75 G75 (fits_nar_char _) W75 (19) rfl (by simp only [List.length_set, List.length_append, List.length_replicate, own_Ml 17 (by decide)]; omega)) rfl
    have Z0 := Nat.le_trans Z0 (Keep.of_wr W75).1
    have K0 := K0.wr W75 (Or.inr sz_ex)
    have N75r := Fr.snoc X75 N70r g_ex
    have go76 : Go p e below T75 (mkF m 406 #[z0, z1, z2, z3, z4, z5, .val (.int (3 : Int32)), .val (.ref tl), z8, .val (.ref pp), .val (.ref ex), .unset, .unset, .unset] []) S0 := fun t kt => go74 t (st75 _ kt)
    have go77 : Go p e below T75 (mkF m 421 #[z0, z1, z2, z3, z4, z5, .val (.int (3 : Int32)), .val (.ref tl), z8, .val (.ref pp), .val (.ref ex), .unset, .unset, .unset] []) S0 := by
      intro tt kt
      refine go76 tt ?_
      refine XS.iload X75.here hx rfl (hb hby at_406) rfl ?_
      refine XS.iconst X75.here hx rfl (hb hby at_408) ?_
      refine XS.icmpYes X75.here hx rfl (pc0 := 409) (pc' := 421) rfl (hb hby at_409) rfl (flt (by decide)).2.2.2 (by decide) (by decide) ?_
      exact kt
    exact ⟨T75, h75, _, ex, k3, X75, e75, N75r, oE K0, oA V_ex rfl, go77⟩
  · have go78 : Go p e below T38 (mkF m 364 #[z0, z1, z2, z3, z4, z5, .val (.int (4 : Int32)), .val (.ref tl), z8, .val (.ref pp), .val (.ref ex), .unset, .unset, .unset] [(.int (4 : Int32))]) S0 := go39
    have go79 : Go p e below T38 (mkF m 374 #[z0, z1, z2, z3, z4, z5, .val (.int (4 : Int32)), .val (.ref tl), z8, .val (.ref pp), .val (.ref ex), .unset, .unset, .unset] [(.int (0 : Int32)), (.ref tl), (.int (17 : Int32)), (.ref ex)]) S0 := by
      intro tt kt
      refine go78 tt ?_
      refine XS.ifNo X38.here hx rfl (hb hby at_364) rfl ((if0 _ _).trans (tlt (by decide)).2.2.2) ?_
      refine XS.aload X38.here hx rfl (hb hby at_367) rfl rfl ?_
      refine XS.bipush X38.here hx rfl (hb hby at_369) ?_
      refine XS.aload X38.here hx rfl (hb hby at_371) rfl rfl ?_
      refine XS.iconst X38.here hx rfl (hb hby at_373) ?_
      exact kt
    obtain ⟨cl80, Ar80, q80, S80, N80, H80, G80⟩ := id V_tl
    have go81 : Go p e below T38 (mkF m 375 #[z0, z1, z2, z3, z4, z5, .val (.int (4 : Int32)), .val (.ref tl), z8, .val (.ref pp), .val (.ref ex), .unset, .unset, .unset] [(.int c0), (.int (17 : Int32)), (.ref ex)]) S0 := by
      intro tt kt
      refine go79 tt ?_
      refine X38.caload hx (j := (0 : Int32)) (v := (.int c0)) (by rw [e38]; exact Ar80.1) (State.isArrayOf_alike hZ.alike Ar80.2.1) Ar80.2.2 (inb_of S80 ⟨by decide, by decide⟩) (H80 0 (by rw [S80]; decide)) (g := (mkF m 374 #[z0, z1, z2, z3, z4, z5, .val (.int (4 : Int32)), .val (.ref tl), z8, .val (.ref pp), .val (.ref ex), .unset, .unset, .unset] [(.int (0 : Int32)), (.ref tl), (.int (17 : Int32)), (.ref ex)])) rfl rfl (hb hby at_374) _ ?_
      exact kt
    obtain ⟨cl82, Ar82, q82, S82, N82, H82, G82⟩ := V_ex
    obtain ⟨T82, h82, X82, e82, W82, st82⟩ := stC X38 hx hZ e38 Ar82 (j := (17 : Int32)) (fun q => by rw [S82] at q; exact (fun q => q.elim (by decide) fun q => by rw [c17] at q; have e : (17 : Int32).toNatClampNeg = 17 := rfl; omega) q) (g := (mkF m 375 #[z0, z1, z2, z3, z4, z5, .val (.int (4 : Int32)), .val (.ref tl), z8, .val (.ref pp), .val (.ref ex), .unset, .unset, .unset] [(.int c0), (.int (17 : Int32)), (.ref ex)])) rfl rfl (hb hby at_375)
    have V_tl := V_tl.other W82 ne_tl_ex
    have V_ex : Arv Z h82 ex k3 .char (Int32.ofNat (17 + 4)) ((own_M 17 ++ List.replicate 4 (Value.int (0 : Int32))).set 17 (Value.int (nar .char c0))) (.int (0 : Int32)) := oA (Arv.set Ar82 q82 S82 N82 H82 G82 (fits_nar_char _) W82 (17) rfl (by simp only [List.length_set, List.length_append, List.length_replicate, own_Ml 17 (by decide)]; omega)) rfl
    have Z0 := Nat.le_trans Z0 (Keep.of_wr W82).1
    have K0 := K0.wr W82 (Or.inr sz_ex)
    have N82r := Fr.snoc X82 N38 g_ex
    have go83 : Go p e below T82 (mkF m 376 #[z0, z1, z2, z3, z4, z5, .val (.int (4 : Int32)), .val (.ref tl), z8, .val (.ref pp), .val (.ref ex), .unset, .unset, .unset] []) S0 := fun t kt => go81 t (st82 _ kt)
    have go84 : Go p e below T82 (mkF m 389 #[z0, z1, z2, z3, z4, z5, .val (.int (4 : Int32)), .val (.ref tl), z8, .val (.ref pp), .val (.ref ex), .unset, .unset, .unset] [(.int (1 : Int32)), (.ref tl), (.int (18 : Int32)), (.ref ex)]) S0 := by
      intro tt kt
      refine go83 tt ?_
      refine XS.iload X82.here hx rfl (hb hby at_376) rfl ?_
      refine XS.iconst X82.here hx rfl (hb hby at_378) ?_
      refine XS.icmpNo X82.here hx rfl (hb hby at_379) rfl (tlt (by decide)).2.2.2 ?_
      refine XS.aload X82.here hx rfl (hb hby at_382) rfl rfl ?_
      refine XS.bipush X82.here hx rfl (hb hby at_384) ?_
      refine XS.aload X82.here hx rfl (hb hby at_386) rfl rfl ?_
      refine XS.iconst X82.here hx rfl (hb hby at_388) ?_
      exact kt
    obtain ⟨cl85, Ar85, q85, S85, N85, H85, G85⟩ := id V_tl
    have go86 : Go p e below T82 (mkF m 390 #[z0, z1, z2, z3, z4, z5, .val (.int (4 : Int32)), .val (.ref tl), z8, .val (.ref pp), .val (.ref ex), .unset, .unset, .unset] [(.int c1), (.int (18 : Int32)), (.ref ex)]) S0 := by
      intro tt kt
      refine go84 tt ?_
      refine X82.caload hx (j := (1 : Int32)) (v := (.int c1)) (by rw [e82]; exact Ar85.1) (State.isArrayOf_alike hZ.alike Ar85.2.1) Ar85.2.2 (inb_of S85 ⟨by decide, by decide⟩) (H85 1 (by rw [S85]; decide)) (g := (mkF m 389 #[z0, z1, z2, z3, z4, z5, .val (.int (4 : Int32)), .val (.ref tl), z8, .val (.ref pp), .val (.ref ex), .unset, .unset, .unset] [(.int (1 : Int32)), (.ref tl), (.int (18 : Int32)), (.ref ex)])) rfl rfl (hb hby at_389) _ ?_
      exact kt
    obtain ⟨cl87, Ar87, q87, S87, N87, H87, G87⟩ := V_ex
    obtain ⟨T87, h87, X87, e87, W87, st87⟩ := stC X82 hx hZ e82 Ar87 (j := (18 : Int32)) (fun q => by rw [S87] at q; exact (fun q => q.elim (by decide) fun q => by rw [c17] at q; have e : (18 : Int32).toNatClampNeg = 18 := rfl; omega) q) (g := (mkF m 390 #[z0, z1, z2, z3, z4, z5, .val (.int (4 : Int32)), .val (.ref tl), z8, .val (.ref pp), .val (.ref ex), .unset, .unset, .unset] [(.int c1), (.int (18 : Int32)), (.ref ex)])) rfl rfl (hb hby at_390)
    have V_tl := V_tl.other W87 ne_tl_ex
    have V_ex : Arv Z h87 ex k3 .char (Int32.ofNat (17 + 4)) (((own_M 17 ++ List.replicate 4 (Value.int (0 : Int32))).set 17 (Value.int (nar .char c0))).set 18 (Value.int (nar .char c1))) (.int (0 : Int32)) := oA (Arv.set Ar87 q87 S87 N87 H87 G87 (fits_nar_char _) W87 (18) rfl (by simp only [List.length_set, List.length_append, List.length_replicate, own_Ml 17 (by decide)]; omega)) rfl
    have Z0 := Nat.le_trans Z0 (Keep.of_wr W87).1
    have K0 := K0.wr W87 (Or.inr sz_ex)
    have N87r := Fr.snoc X87 N82r g_ex
    have go88 : Go p e below T87 (mkF m 391 #[z0, z1, z2, z3, z4, z5, .val (.int (4 : Int32)), .val (.ref tl), z8, .val (.ref pp), .val (.ref ex), .unset, .unset, .unset] []) S0 := fun t kt => go86 t (st87 _ kt)
    have go89 : Go p e below T87 (mkF m 404 #[z0, z1, z2, z3, z4, z5, .val (.int (4 : Int32)), .val (.ref tl), z8, .val (.ref pp), .val (.ref ex), .unset, .unset, .unset] [(.int (2 : Int32)), (.ref tl), (.int (19 : Int32)), (.ref ex)]) S0 := by
      intro tt kt
      refine go88 tt ?_
      refine XS.iload X87.here hx rfl (hb hby at_391) rfl ?_
      refine XS.iconst X87.here hx rfl (hb hby at_393) ?_
      refine XS.icmpNo X87.here hx rfl (hb hby at_394) rfl (tlt (by decide)).2.2.2 ?_
      refine XS.aload X87.here hx rfl (hb hby at_397) rfl rfl ?_
      refine XS.bipush X87.here hx rfl (hb hby at_399) ?_
      refine XS.aload X87.here hx rfl (hb hby at_401) rfl rfl ?_
      refine XS.iconst X87.here hx rfl (hb hby at_403) ?_
      exact kt
    obtain ⟨cl90, Ar90, q90, S90, N90, H90, G90⟩ := id V_tl
    have go91 : Go p e below T87 (mkF m 405 #[z0, z1, z2, z3, z4, z5, .val (.int (4 : Int32)), .val (.ref tl), z8, .val (.ref pp), .val (.ref ex), .unset, .unset, .unset] [(.int c2), (.int (19 : Int32)), (.ref ex)]) S0 := by
      intro tt kt
      refine go89 tt ?_
      refine X87.caload hx (j := (2 : Int32)) (v := (.int c2)) (by rw [e87]; exact Ar90.1) (State.isArrayOf_alike hZ.alike Ar90.2.1) Ar90.2.2 (inb_of S90 ⟨by decide, by decide⟩) (H90 2 (by rw [S90]; decide)) (g := (mkF m 404 #[z0, z1, z2, z3, z4, z5, .val (.int (4 : Int32)), .val (.ref tl), z8, .val (.ref pp), .val (.ref ex), .unset, .unset, .unset] [(.int (2 : Int32)), (.ref tl), (.int (19 : Int32)), (.ref ex)])) rfl rfl (hb hby at_404) _ ?_
      exact kt
    obtain ⟨cl92, Ar92, q92, S92, N92, H92, G92⟩ := V_ex
    obtain ⟨T92, h92, X92, e92, W92, st92⟩ := stC X87 hx hZ e87 Ar92 (j := (19 : Int32)) (fun q => by rw [S92] at q; exact (fun q => q.elim (by decide) fun q => by rw [c17] at q; have e : (19 : Int32).toNatClampNeg = 19 := rfl; omega) q) (g := (mkF m 405 #[z0, z1, z2, z3, z4, z5, .val (.int (4 : Int32)), .val (.ref tl), z8, .val (.ref pp), .val (.ref ex), .unset, .unset, .unset] [(.int c2), (.int (19 : Int32)), (.ref ex)])) rfl rfl (hb hby at_405)
    have V_tl := V_tl.other W92 ne_tl_ex
    have V_ex : Arv Z h92 ex k3 .char (Int32.ofNat (17 + 4)) ((((own_M 17 ++ List.replicate 4 (Value.int (0 : Int32))).set 17 (Value.int (nar .char c0))).set 18 (Value.int (nar .char c1))).set 19 (Value.int (nar .char c2))) (.int (0 : Int32)) := oA (Arv.set Ar92 q92 S92 N92 H92 G92 (fits_nar_char _) W92 (19) rfl (by simp only [List.length_set, List.length_append, List.length_replicate, own_Ml 17 (by decide)]; omega)) rfl
    have Z0 := Nat.le_trans Z0 (Keep.of_wr W92).1
    have K0 := K0.wr W92 (Or.inr sz_ex)
    have N92r := Fr.snoc X92 N87r g_ex
    have go93 : Go p e below T92 (mkF m 406 #[z0, z1, z2, z3, z4, z5, .val (.int (4 : Int32)), .val (.ref tl), z8, .val (.ref pp), .val (.ref ex), .unset, .unset, .unset] []) S0 := fun t kt => go91 t (st92 _ kt)
    have go94 : Go p e below T92 (mkF m 419 #[z0, z1, z2, z3, z4, z5, .val (.int (4 : Int32)), .val (.ref tl), z8, .val (.ref pp), .val (.ref ex), .unset, .unset, .unset] [(.int (3 : Int32)), (.ref tl), (.int (20 : Int32)), (.ref ex)]) S0 := by
      intro tt kt
      refine go93 tt ?_
      refine XS.iload X92.here hx rfl (hb hby at_406) rfl ?_
      refine XS.iconst X92.here hx rfl (hb hby at_408) ?_
      refine XS.icmpNo X92.here hx rfl (hb hby at_409) rfl (tlt (by decide)).2.2.2 ?_
      refine XS.aload X92.here hx rfl (hb hby at_412) rfl rfl ?_
      refine XS.bipush X92.here hx rfl (hb hby at_414) ?_
      refine XS.aload X92.here hx rfl (hb hby at_416) rfl rfl ?_
      refine XS.iconst X92.here hx rfl (hb hby at_418) ?_
      exact kt
    obtain ⟨cl95, Ar95, q95, S95, N95, H95, G95⟩ := id V_tl
    have go96 : Go p e below T92 (mkF m 420 #[z0, z1, z2, z3, z4, z5, .val (.int (4 : Int32)), .val (.ref tl), z8, .val (.ref pp), .val (.ref ex), .unset, .unset, .unset] [(.int c3), (.int (20 : Int32)), (.ref ex)]) S0 := by
      intro tt kt
      refine go94 tt ?_
      refine X92.caload hx (j := (3 : Int32)) (v := (.int c3)) (by rw [e92]; exact Ar95.1) (State.isArrayOf_alike hZ.alike Ar95.2.1) Ar95.2.2 (inb_of S95 ⟨by decide, by decide⟩) (H95 3 (by rw [S95]; decide)) (g := (mkF m 419 #[z0, z1, z2, z3, z4, z5, .val (.int (4 : Int32)), .val (.ref tl), z8, .val (.ref pp), .val (.ref ex), .unset, .unset, .unset] [(.int (3 : Int32)), (.ref tl), (.int (20 : Int32)), (.ref ex)])) rfl rfl (hb hby at_419) _ ?_
      exact kt
    obtain ⟨cl97, Ar97, q97, S97, N97, H97, G97⟩ := V_ex
    obtain ⟨T97, h97, X97, e97, W97, st97⟩ := stC X92 hx hZ e92 Ar97 (j := (20 : Int32)) (fun q => by rw [S97] at q; exact (fun q => q.elim (by decide) fun q => by rw [c17] at q; have e : (20 : Int32).toNatClampNeg = 20 := rfl; omega) q) (g := (mkF m 420 #[z0, z1, z2, z3, z4, z5, .val (.int (4 : Int32)), .val (.ref tl), z8, .val (.ref pp), .val (.ref ex), .unset, .unset, .unset] [(.int c3), (.int (20 : Int32)), (.ref ex)])) rfl rfl (hb hby at_420)
    have V_tl := V_tl.other W97 ne_tl_ex
    have V_ex : Arv Z h97 ex k3 .char (Int32.ofNat (17 + 4)) (((((own_M 17 ++ List.replicate 4 (Value.int (0 : Int32))).set 17 (Value.int (nar .char c0))).set 18 (Value.int (nar .char c1))).set 19 (Value.int (nar .char c2))).set 20 (Value.int (nar .char c3))) (.int (0 : Int32)) := oA (Arv.set Ar97 q97 S97 N97 H97 G97 (fits_nar_char _) W97 (20) rfl (by simp only [List.length_set, List.length_append, List.length_replicate, own_Ml 17 (by decide)]; omega)) rfl
    have Z0 := Nat.le_trans Z0 (Keep.of_wr W97).1
    have K0 := K0.wr W97 (Or.inr sz_ex)
    have N97r := Fr.snoc X97 N92r g_ex
    have go98 : Go p e below T97 (mkF m 421 #[z0, z1, z2, z3, z4, z5, .val (.int (4 : Int32)), .val (.ref tl), z8, .val (.ref pp), .val (.ref ex), .unset, .unset, .unset] []) S0 := fun t kt => go96 t (st97 _ kt)
    exact ⟨T97, h97, _, ex, k3, X97, e97, N97r, oE K0, oA V_ex rfl, go98⟩
theorem own_bl (cs : List Int32) (h : cs.length ≤ 21) : (own_b cs).length < 1000 := by rw [own_b_len]; split <;> omega
theorem own_gcn (a : Addr) : gcV a (.ref a) = .null := if_pos rfl
theorem pd26_ : parseMethodDescriptor "([C)V" = some ⟨[(.array .char)], none⟩ := by decide +kernel
theorem pd0_ : parseMethodDescriptor "(Ljava/lang/String;)Ljava/lang/IllegalArgumentException;" = some ⟨[(.object "java/lang/String")], some (.object "java/lang/IllegalArgumentException")⟩ := by decide +kernel
theorem pd12_ : parseMethodDescriptor "(Ljava/lang/Object;)Z" = some ⟨[(.object "java/lang/Object")], some .boolean⟩ := by decide +kernel
theorem pd9_ : parseMethodDescriptor "()Ljava/lang/Throwable;" = some ⟨[], some (.object "java/lang/Throwable")⟩ := by decide +kernel
theorem own_tailN {p : Program} {l : Launch} {e : Env} {s : State} {m : MethodId} {args : Array Value} {below : List Frame} {meth : Method} {c : Code} {T0 : State} {locs : List Loc} {cells slots : Nat} {Z : State} {a0 : Array Value} {h0 : Heap} {vm0 : Vm} {k0 n0 : Nat} {zc : Int32} {fm : Value} {ua sa pp ex : Addr} {kx : ClassId} {z0 z1 z2 z3 z4 z5 z6 z7 : Slot}
    (hw : ∀ d ∈ tables_1, d.before a0 Z = true) (hEL : EW Z a0 own_EL) (X0 : Stand p l e room_1 (s.setVm vm0) m args below meth c T0 locs cells slots) (hx : p.tables.exec = Jvm.exec) (hZ : Z.Warmed39 (s.setVm vm0).vm) (hown : (s.setVm vm0).vm.findClass "com/example/ceresio/ceresio/StateFormatMalformedPinLaw" = some m.cls) (hby : c.code = code) (hml : c.maxLocals = 14) (hret : meth.sig.returnType = some .boolean) (hlk : meth.locks = false) (e0 : T0.heap = h0) (hS : s.Since vm0 k0) (hk : k0 ≤ h0.size) {vmA : Vm} {hA : Heap} (R0 : CHr Z own_EL vmA hA vm0 h0) (Z0 : n0 ≤ h0.size) (N0 : Fr n0 locs) (O0 : OldE Z h0) (hn0 : Z.heap.size ≤ n0) (S_CS : Sta Z Z.heap "java/lang/String" "COMPACT_STRINGS" "Z" (.int zc)) (P5 : ¬ zc = (0 : Int32)) (S_AD : Sta Z Z.heap "java/lang/StringUTF16" "$assertionsDisabled" "Z" (.int (1 : Int32))) (S_HI : Sta Z Z.heap "java/lang/StringUTF16" "HI_BYTE_SHIFT" "I" (.int (0 : Int32))) (S_LO : Sta Z Z.heap "java/lang/StringUTF16" "LO_BYTE_SHIFT" "I" (.int (8 : Int32))) (S_SI : Sta Z Z.heap "jdk/internal/util/Preconditions" "SIOOBE_FORMATTER" "Ljava/util/function/BiFunction;" fm) (rf : fm.isRef = true) (S_UN : Sta Z Z.heap "java/lang/Throwable" "UNASSIGNED_STACK" "[Ljava/lang/StackTraceElement;" (.ref ua)) (S_SP : Sta Z Z.heap "java/lang/Throwable" "SUPPRESSED_SENTINEL" "Ljava/util/List;" (.ref sa)) (hl : l.stackTraces = true) (hTK : s.vm.MethodsKnown) (hBelow : s.vm.FramesKnown below) (hc1 : cells ≤ 22) (hc2 : slots ≤ 600) (B_pp : Bs Z h0 pp (0 : Int32) own_PB) (V_ex : Arv Z h0 ex kx .char (Int32.ofNat (17 + own_N.length)) ((own_P ++ own_N).map Value.int) (.int (0 : Int32))) (hch : ∀ c ∈ own_P ++ own_N, ¬ c < (0 : Int32) ∧ ¬ (65535 : Int32) < c) :
    ∃ s₂ o, Steps p.tables e below (T0.setTop (mkF m 421 #[z0, z1, z2, z3, z4, z5, z6, z7, .val .null, .val (.ref pp), .val (.ref ex), .unset, .unset, .unset] [])) s₂ ∧ s₂.status = .running ∧ Ended s₂ below o ∧ ∃ v L, o = .returned v ∧ (v = some (.int (1 : Int32)) ∧ Fr n0 L) ∧ ReturnedEndW s o s₂ L room_1.cells room_1.slots := by
  have go0 : Go p e below T0 (mkF m 421 #[z0, z1, z2, z3, z4, z5, z6, z7, .val .null, .val (.ref pp), .val (.ref ex), .unset, .unset, .unset] []) (T0.setTop (mkF m 421 #[z0, z1, z2, z3, z4, z5, z6, z7, .val .null, .val (.ref pp), .val (.ref ex), .unset, .unset, .unset] [])) := fun t k => k
  generalize (T0.setTop (mkF m 421 #[z0, z1, z2, z3, z4, z5, z6, z7, .val .null, .val (.ref pp), .val (.ref ex), .unset, .unset, .unset] [])) = S0 at go0 ⊢
  have K0 : Keep h0 h0 [] := Keep.refl h0 []
  have hcl4 : own_N.length ≤ 4 := by decide
  have hlen : 17 + own_N.length = (own_P ++ own_N).length := by rw [List.length_append]; rfl
  obtain ⟨T1, h1, X1, e1, E1, A1, D1, -, st1⟩ := newO X0 hx hZ hown (wi hw 2 rfl) (wi hw 3 rfl) (wi hw 4 rfl) e0 (g := (mkF m 421 #[z0, z1, z2, z3, z4, z5, z6, z7, .val .null, .val (.ref pp), .val (.ref ex), .unset, .unset, .unset] [])) rfl (hb hby at_421) (by simp only [room_1]; omega) (by simp only [room_1]; omega)
  obtain ⟨xs, g1⟩ : ∃ z, z = h0.size := ⟨_, rfl⟩
  rw [← g1] at A1 D1 st1
  have g_xs : n0 ≤ xs := Nat.le_trans Z0 (Nat.le_of_eq g1.symm)
  have sz_xs : h0.size ≤ xs := Nat.le_trans K0.1 (Nat.le_of_eq g1.symm)
  have V_ex := V_ex.ext E1
  have Z0 := Nat.le_trans Z0 E1.1
  have K0 := K0.ext E1
  have go2 : Go p e below T1 (mkF m 424 #[z0, z1, z2, z3, z4, z5, z6, z7, .val .null, .val (.ref pp), .val (.ref ex), .unset, .unset, .unset] [(.ref xs)]) S0 := fun t kt => go0 t (st1 _ kt)
  have E_xs := A1
  have F_value_xs : Fld Z h1 xs "java/lang/String" "value" "[B" .null := D1 (Or.inr (wi hw 17 rfl)) (ty := (.array .byte)) (by decide)
  have F_coder_xs : Fld Z h1 xs "java/lang/String" "coder" "B" (.int (0 : Int32)) := D1 (Or.inr (wi hw 18 rfl)) (ty := .byte) (by decide)
  have go3 : Go p e below T1 (mkF m 427 #[z0, z1, z2, z3, z4, z5, z6, z7, .val .null, .val (.ref pp), .val (.ref ex), .unset, .unset, .unset] [(.ref ex), (.ref xs), (.ref xs)]) S0 := by
    intro tt kt
    refine go2 tt ?_
    refine XS.dup X1.here hx rfl (hb hby at_424) rfl rfl ?_
    refine XS.aload X1.here hx rfl (hb hby at_425) rfl rfl ?_
    exact kt
  obtain ⟨_, _, ⟨T4, L4, k4, n4⟩, -, X4, ⟨Lc4, hQ4, l4, y4, z4⟩, st4⟩ := X1.specialBack hx (y := y3_) rfl hown (mvT hZ (wi hw 5 rfl)) (mvT hZ (wi hw 6 rfl)) (mvT hZ (wi hw 7 rfl)) (by decide) (backOf (W := 1) (rm_si1 l Z a0 hw [] xs ex (17 + own_N.length) kx (own_P ++ own_N) zc h1 n0 Z0 (oO O0 K0 hn0 all0) hn0 S_AD S_HI S_LO S_CS P5 E_xs F_value_xs F_coder_xs g_xs hlen (by omega) (by omega) V_ex hch) hZ (wi hw 7 rfl) (wi hw 4 rfl) (by decide) (by decide)) (g := (mkF m 427 #[z0, z1, z2, z3, z4, z5, z6, z7, .val .null, .val (.ref pp), .val (.ref ex), .unset, .unset, .unset] [(.ref ex), (.ref xs), (.ref xs)])) rfl (by rw [hml]; rfl) (Steps.refl _) (a := xs) (argsL := [(.ref ex)]) (rest := [(.ref xs)]) (lenOf pd26_ rfl) rfl (by show 2 * 0 + _ ≤ _; exact Nat.le_of_eq rfl) (hb hby at_427) (fun _ _ => ⟨rfl, e1, (by dsimp only [Pt.cells, room_1]; omega), (by dsimp only [Pt.slots, room_1]; omega)⟩)
  dsimp only [Pt.U, Pt.locs, Pt.cells, Pt.slots] at X4 l4 y4 z4 st4 hQ4
  subst l4 y4 z4
  obtain ⟨rfl, N4q, K4, B_x⟩ := hQ4
  have K0 := K0.trans K4 (allS (Or.inr sz_xs) all0)
  have Z0 := Nat.le_trans Z0 K4.1
  have N4 := Fr.app N0 N4q
  have go5 : Go p e below T4 (mkF m 430 #[z0, z1, z2, z3, z4, z5, z6, z7, .val .null, .val (.ref pp), .val (.ref ex), .unset, .unset, .unset] [(.ref xs)]) S0 := fun t kt => go3 t (st4.trans kt)
  have EK := oE K0
  have O0 : OldE Z T4.heap := O0.ext EK
  have B_pp := B_pp.ext EK
  have hk := Nat.le_trans hk EK.1
  have R0 := R0.trans (CHr.ext EK R0.1)
  have go6 : Go p e below T4 (mkF m 434 #[z0, z1, z2, z3, z4, z5, z6, z7, .val .null, .val (.ref pp), .val (.ref ex), .val (.ref xs), .unset, .unset] [.null]) S0 := by
    intro tt kt
    refine go5 tt ?_
    refine XS.astore X4.here hx rfl (hb hby at_430) rfl rfl (l' := #[z0, z1, z2, z3, z4, z5, z6, z7, .val .null, .val (.ref pp), .val (.ref ex), .val (.ref xs), .unset, .unset]) rfl ?_
    refine XS.aload X4.here hx rfl (hb hby at_432) rfl rfl ?_
    exact kt
  obtain ⟨_, _, ⟨T7, L7, k7, n7⟩, -, X7, hS7a, hg7, ⟨Lc7, hQ7, l7, y7, z7, CR7⟩, st7⟩ := callSS X4 hx (y := y8_) hown (mvT hZ (wi hw 57 rfl)) (mvT hZ (wi hw 58 rfl)) (mvT hZ (wi hw 59 rfl)) (mvT hZ (wi hw 60 rfl)) (by decide) (own_backK (W := 0) (rm_malN l Z a0 hw [] fm zc ua sa T4.heap n0 Z0 O0 hn0 S_CS P5 S_AD S_HI S_LO S_SI rf hEL S_UN S_SP hl) hZ (wi hw 60 rfl) (wi hw 59 rfl) (by decide) (by decide) hEL R0.1 (Vm.MethodsKnown.alikeC hS.1.alike hTK) (Vm.FramesKnown.alikeC hS.1.alike hBelow)) (g := (mkF m 434 #[z0, z1, z2, z3, z4, z5, z6, z7, .val .null, .val (.ref pp), .val (.ref ex), .val (.ref xs), .unset, .unset] [.null])) rfl (by rw [hml]; rfl) (argsL := [.null]) (rest := []) (lenOf pd0_ rfl) rfl (by show 2 * 0 + _ ≤ _; exact Nat.le_of_eq rfl) (hb hby at_434) (fun _ _ => ⟨rfl, rfl, (by dsimp only [Pt.cells, room_1]; omega), (by dsimp only [Pt.slots, room_1]; omega)⟩)
  dsimp only [Pt.U, Pt.locs, Pt.cells, Pt.slots] at X7 hS7a hg7 l7 y7 z7 CR7 st7 hQ7
  subst l7 y7 z7
  obtain ⟨e_, mm, rfl, N7q, E7, Ee, Ue, Fm, Fc, Bm⟩ := hQ7
  have hS7 : s.Since T7.vm T7.heap.size := foldS hS hk hS7a hg7
  have hk7 : T7.heap.size ≤ T7.heap.size := Nat.le_refl _
  have hZ7 : Z.Warmed39 (s.setVm T7.vm).vm := State.Warmed39.trans (t := s.setVm vm0) hZ hS7a.1
  have hown7 : (s.setVm T7.vm).vm.findClass "com/example/ceresio/ceresio/StateFormatMalformedPinLaw" = some m.cls := by rw [show (s.setVm T7.vm).vm = T7.vm from rfl, hS7a.1.alike.findClass]; exact hown
  have X7 : Stand p l e _ (s.setVm T7.vm) m _ below meth c T7 _ _ _ := X7
  have O0 := O0.ext E7
  have B_pp := B_pp.ext E7
  have B_x := B_x.ext E7
  have Z0 := Nat.le_trans Z0 E7.1
  have R0 := R0.trans CR7
  have N7 := Fr.app N4 N7q
  obtain ⟨kk7, hkk7⟩ : ∃ z, z = T7.heap.size := ⟨_, rfl⟩
  rw [← hkk7] at hS7
  have hk7 : kk7 ≤ T7.heap.size := Nat.le_of_eq hkk7
  have go8 : Go p e below T7 (mkF m 437 #[z0, z1, z2, z3, z4, z5, z6, z7, .val .null, .val (.ref pp), .val (.ref ex), .val (.ref xs), .unset, .unset] [(.ref e_)]) S0 := fun t kt => go6 t (st7.trans kt)
  have go9 : Go p e below T7 (mkF m 448 #[z0, z1, z2, z3, z4, z5, z6, z7, .val .null, .val (.ref pp), .val (.ref ex), .val (.ref xs), .val (.ref e_), .unset] [(.ref e_)]) S0 := by
    intro tt kt
    refine go8 tt ?_
    refine XS.astore X7.here hx rfl (hb hby at_437) rfl rfl (l' := #[z0, z1, z2, z3, z4, z5, z6, z7, .val .null, .val (.ref pp), .val (.ref ex), .val (.ref xs), .val (.ref e_), .unset]) rfl ?_
    refine XS.aload X7.here hx rfl (hb hby at_439) rfl rfl ?_
    refine XS.ifnonnullYes X7.here hx rfl (pc0 := 441) (pc' := 446) rfl (hb hby at_441) rfl (by decide) (by decide) ?_
    refine XS.aload X7.here hx rfl (hb hby at_446) rfl rfl ?_
    exact kt
  obtain ⟨cq10, kq10, q10a, q10b, q10c⟩ := isOf hZ7 rfl Ee
  obtain ⟨_, _, ⟨T10, L10, k10, n10⟩, -, X10, ⟨Lc10, hQ10, l10, y10, z10⟩, st10⟩ := X7.virtualBackUp hx (x := y56_) (y := y25_) (owner := "java/lang/Throwable") hown7 (mvT hZ7 (wi hw 250 rfl)) (mvT hZ7 (wi hw 251 rfl)) (mvT hZ7 (wi hw 252 rfl)) (by decide) (mvT hZ7 (wi hw 254 rfl)) (mvT hZ7 (wi hw 253 rfl)) (backOf (W := 0) (rm_gm l Z a0 hw [] e_ mm T7.heap n0 Z0 Fm) hZ7 (wi hw 255 rfl) (wi hw 211 rfl) (by decide) (by decide)) q10a q10c (g := (mkF m 448 #[z0, z1, z2, z3, z4, z5, z6, z7, .val .null, .val (.ref pp), .val (.ref ex), .val (.ref xs), .val (.ref e_), .unset] [(.ref e_)])) rfl (by rw [hml]; rfl) (Steps.refl _) (argsL := []) (rest := []) (lenOf pd13_ rfl) rfl (by show 2 * 0 + _ ≤ _; exact Nat.le_of_eq rfl) (hb hby at_448) (fun _ _ => ⟨rfl, rfl, (by dsimp only [Pt.cells, room_1]; omega), (by dsimp only [Pt.slots, room_1]; omega)⟩)
  dsimp only [Pt.U, Pt.locs, Pt.cells, Pt.slots] at X10 l10 y10 z10 st10 hQ10
  subst l10 y10 z10
  obtain ⟨rfl, N10q, g10⟩ := hQ10
  rw [← g10] at B_pp B_x O0 Ee Ue Fm Fc Bm Z0 hk7 R0
  have N10 := Fr.app N7 N10q
  have go11 : Go p e below T10 (mkF m 451 #[z0, z1, z2, z3, z4, z5, z6, z7, .val .null, .val (.ref pp), .val (.ref ex), .val (.ref xs), .val (.ref e_), .unset] [(.ref mm)]) S0 := fun t kt => go9 t (st10.trans kt)
  obtain ⟨tp, ktp, E_pp, C_pp, V_pp, A_tp⟩ := id B_pp
  have go12 : Go p e below T10 (mkF m 462 #[z0, z1, z2, z3, z4, z5, z6, z7, .val .null, .val (.ref pp), .val (.ref ex), .val (.ref xs), .val (.ref e_), .val (.ref mm)] [(.ref pp)]) S0 := by
    intro tt kt
    refine go11 tt ?_
    refine XS.astore X10.here hx rfl (hb hby at_451) rfl rfl (l' := #[z0, z1, z2, z3, z4, z5, z6, z7, .val .null, .val (.ref pp), .val (.ref ex), .val (.ref xs), .val (.ref e_), .val (.ref mm)]) rfl ?_
    refine XS.aload X10.here hx rfl (hb hby at_453) rfl rfl ?_
    refine XS.ifnonnullYes X10.here hx rfl (pc0 := 455) (pc' := 460) rfl (hb hby at_455) rfl (by decide) (by decide) ?_
    refine XS.aload X10.here hx rfl (hb hby at_460) rfl rfl ?_
    exact kt
  obtain ⟨cq13, kq13, q13a, q13b, q13c⟩ := isOf hZ7 rfl E_pp
  obtain ⟨_, _, ⟨T13, L13, k13, n13⟩, -, X13, ⟨Lc13, hQ13, l13, y13, z13⟩, st13⟩ := X10.virtualBack hx (y := y1_) (z := y1_) hown7 (mvT hZ7 (wi hw 256 rfl)) (mvT hZ7 (wi hw 94 rfl)) (notFace_of_selects (args := #[]) (mvT hZ7 (wi hw 96 rfl))) (mvT hZ7 (wi hw 96 rfl)) (mvT hZ7 (wi hw 95 rfl)) (by decide) (backOf (W := 0) (rm_slen l Z a0 hw [] pp tp ktp (0 : Int32) own_PB (17 : Int32) zc T10.heap n0 Z0 O0 hn0 S_CS P5 E_pp C_pp V_pp A_tp (by decide) (by rw [own_PBl]; decide)) hZ7 (wi hw 97 rfl) (wi hw 4 rfl) (by decide) (by decide)) q13a q13c (g := (mkF m 462 #[z0, z1, z2, z3, z4, z5, z6, z7, .val .null, .val (.ref pp), .val (.ref ex), .val (.ref xs), .val (.ref e_), .val (.ref mm)] [(.ref pp)])) rfl (by rw [hml]; rfl) (Steps.refl _) (argsL := []) (rest := []) (lenOf pd37_ rfl) rfl (by show 2 * 0 + _ ≤ _; exact Nat.le_of_eq rfl) (hb hby at_462) (fun _ _ => ⟨rfl, rfl, (by dsimp only [Pt.cells, room_1]; omega), (by dsimp only [Pt.slots, room_1]; omega)⟩)
  dsimp only [Pt.U, Pt.locs, Pt.cells, Pt.slots] at X13 l13 y13 z13 st13 hQ13
  subst l13 y13 z13
  obtain ⟨rfl, N13q, g13⟩ := hQ13
  rw [← g13] at B_pp B_x O0 Ee Ue Fm Fc Bm Z0 hk7 R0
  have N13 := Fr.app N10 N13q
  have go14 : Go p e below T13 (mkF m 465 #[z0, z1, z2, z3, z4, z5, z6, z7, .val .null, .val (.ref pp), .val (.ref ex), .val (.ref xs), .val (.ref e_), .val (.ref mm)] [(.int (17 : Int32))]) S0 := fun t kt => go12 t (st13.trans kt)
  obtain ⟨t1, kt1, E_1, C_1, V_1, A_1⟩ := id Bm
  obtain ⟨t2, kt2, E_2, C_2, V_2, A_2⟩ := id B_x
  have go15 : Go p e below T13 (mkF m 474 #[z0, z1, z2, z3, z4, z5, z6, z7, .val .null, .val (.ref pp), .val (.ref ex), .val (.ref xs), .val (.ref e_), .val (.ref mm)] [(.ref xs), (.ref mm)]) S0 := by
    intro tt kt
    refine go14 tt ?_
    refine XS.bipush X13.here hx rfl (hb hby at_465) ?_
    refine XS.icmpNo X13.here hx rfl (hb hby at_467) rfl (teq (rfl : (17 : Int32) = (17 : Int32))).2 ?_
    refine XS.aload X13.here hx rfl (hb hby at_470) rfl rfl ?_
    refine XS.aload X13.here hx rfl (hb hby at_472) rfl rfl ?_
    exact kt
  obtain ⟨cq16, kq16, q16a, q16b, q16c⟩ := isOf hZ7 rfl E_1
  obtain ⟨_, _, ⟨T16, L16, k16, n16⟩, -, X16, ⟨Lc16, hQ16, l16, y16, z16⟩, st16⟩ := X13.virtualBack hx (y := y12_) (z := y12_) hown7 (mvT hZ7 (wi hw 257 rfl)) (mvT hZ7 (wi hw 258 rfl)) (notFace_of_selects (args := #[]) (mvT hZ7 (wi hw 260 rfl))) (mvT hZ7 (wi hw 260 rfl)) (mvT hZ7 (wi hw 259 rfl)) (by decide) (backOf (W := 0) (rm_eqS l Z a0 hw [] mm xs t1 t2 kt1 kt2 (own_k (own_P ++ own_N)) (own_b (own_P ++ own_N)) zc T13.heap n0 Z0 O0 hn0 S_CS P5 E_1 C_1 V_1 A_1 E_2 C_2 V_2 A_2 (own_bl _ (by omega)) (own_int_b _)) hZ7 (wi hw 261 rfl) (wi hw 4 rfl) (by decide) (by decide)) q16a q16c (g := (mkF m 474 #[z0, z1, z2, z3, z4, z5, z6, z7, .val .null, .val (.ref pp), .val (.ref ex), .val (.ref xs), .val (.ref e_), .val (.ref mm)] [(.ref xs), (.ref mm)])) rfl (by rw [hml]; rfl) (Steps.refl _) (argsL := [(.ref xs)]) (rest := []) (lenOf pd12_ rfl) rfl (by show 2 * 0 + _ ≤ _; exact Nat.le_of_eq rfl) (hb hby at_474) (fun _ _ => ⟨rfl, rfl, (by dsimp only [Pt.cells, room_1]; omega), (by dsimp only [Pt.slots, room_1]; omega)⟩)
  dsimp only [Pt.U, Pt.locs, Pt.cells, Pt.slots] at X16 l16 y16 z16 st16 hQ16
  subst l16 y16 z16
  obtain ⟨rfl, N16q, g16⟩ := hQ16
  rw [← g16] at B_pp B_x O0 Ee Ue Fm Fc Bm Z0 hk7 R0
  have N16 := Fr.app N13 N16q
  have go17 : Go p e below T16 (mkF m 477 #[z0, z1, z2, z3, z4, z5, z6, z7, .val .null, .val (.ref pp), .val (.ref ex), .val (.ref xs), .val (.ref e_), .val (.ref mm)] [(.int (1 : Int32))]) S0 := fun t kt => go15 t (st16.trans kt)
  have go18 : Go p e below T16 (mkF m 482 #[z0, z1, z2, z3, z4, z5, z6, z7, .val .null, .val (.ref pp), .val (.ref ex), .val (.ref xs), .val (.ref e_), .val (.ref mm)] [(.ref e_)]) S0 := by
    intro tt kt
    refine go17 tt ?_
    refine XS.ifNo X16.here hx rfl (hb hby at_477) rfl ((if0 _ _).trans (feq (by decide)).1) ?_
    refine XS.aload X16.here hx rfl (hb hby at_480) rfl rfl ?_
    exact kt
  obtain ⟨cq19, kq19, q19a, q19b, q19c⟩ := isOf hZ7 rfl Ee
  obtain ⟨_, _, ⟨T19, L19, k19, n19⟩, -, X19, ⟨Lc19, hQ19, l19, y19, z19⟩, st19⟩ := X16.virtualBackUp hx (x := y54_) (y := y52_) (owner := "java/lang/Throwable") hown7 (mvT hZ7 (wi hw 266 rfl)) (mvT hZ7 (wi hw 267 rfl)) (mvT hZ7 (wi hw 268 rfl)) (by decide) (mvT hZ7 (wi hw 270 rfl)) (mvT hZ7 (wi hw 269 rfl)) (gcBackPure (W := 0) (rm := ({ frames := 0, cells := 0, slots := 0, locals := 0 } : Room)) hZ7 (wi hw 271 rfl) (wi hw 269 rfl) (wi hw 211 rfl) (wi hw 214 rfl) Ue Fc rfl (by decide) (by decide)) q19a q19c (g := (mkF m 482 #[z0, z1, z2, z3, z4, z5, z6, z7, .val .null, .val (.ref pp), .val (.ref ex), .val (.ref xs), .val (.ref e_), .val (.ref mm)] [(.ref e_)])) rfl (by rw [hml]; rfl) (Steps.refl _) (argsL := []) (rest := []) (lenOf pd9_ rfl) rfl (by show 2 * 0 + _ ≤ _; exact Nat.le_of_eq rfl) (hb hby at_482) (fun _ _ => ⟨rfl, rfl, (by dsimp only [Pt.cells, room_1]; omega), (by dsimp only [Pt.slots, room_1]; omega)⟩)
  dsimp only [Pt.U, Pt.locs, Pt.cells, Pt.slots] at X19 l19 y19 z19 st19 hQ19
  subst l19 y19 z19
  obtain rfl := Lc19
  rw [own_gcn] at st19
  have N19q : Fr n0 [] := Fr.nil n0
  have N19 : Fr n0 _ := N16
  rw [← hQ19] at B_pp B_x O0 Ee Ue Fm Fc Bm Z0 hk7 R0
  have go20 : Go p e below T19 (mkF m 485 #[z0, z1, z2, z3, z4, z5, z6, z7, .val .null, .val (.ref pp), .val (.ref ex), .val (.ref xs), .val (.ref e_), .val (.ref mm)] [.null]) S0 := fun t kt => go18 t (st19.trans kt)
  have go21 : Go p e below T19 (mkF m 493 #[z0, z1, z2, z3, z4, z5, z6, z7, .val .null, .val (.ref pp), .val (.ref ex), .val (.ref xs), .val (.ref e_), .val (.ref mm)] [(.int (1 : Int32))]) S0 := by
    intro tt kt
    refine go20 tt ?_
    refine XS.ifnonnullNo X19.here hx rfl (hb hby at_485) rfl ?_
    refine XS.iconst X19.here hx rfl (hb hby at_488) ?_
    refine XS.goto X19.here hx rfl (pc0 := 489) (pc' := 493) rfl (hb hby at_489) (by decide) (by decide) ?_
    exact kt
  obtain ⟨fs, hr, hrun, hended, hend⟩ := X19.leaveW hS7 (hk7) (v := some (.int (1 : Int32))) (fun h => by rw [hret] at h; cases h)
  refine ⟨_, _, go21 _ ?_, hrun, hended, _, _, rfl, ⟨rfl, N19⟩, hend.1, hend.2.1, hend.2.2.1, hend.2.2.2.mono (by simp only [room_1]; omega) (by simp only [room_1]; omega)⟩
  exact retN X19 hx (t := .boolean) hret (by simp) (hb hby at_493) hr
theorem own_tailR {p : Program} {l : Launch} {e : Env} {s : State} {m : MethodId} {args : Array Value} {below : List Frame} {meth : Method} {c : Code} {T0 : State} {locs : List Loc} {cells slots : Nat} {Z : State} {a0 : Array Value} {h0 : Heap} {vm0 : Vm} {k0 n0 : Nat} {zc : Int32} {fm : Value} {ua sa pp ex : Addr} {kx : ClassId} {a8 : Addr} {cs : List Int32} {z0 z1 z2 z3 z4 z5 z6 z7 : Slot}
    (hw : ∀ d ∈ tables_1, d.before a0 Z = true) (hEL : EW Z a0 own_EL) (X0 : Stand p l e room_1 (s.setVm vm0) m args below meth c T0 locs cells slots) (hx : p.tables.exec = Jvm.exec) (hZ : Z.Warmed39 (s.setVm vm0).vm) (hown : (s.setVm vm0).vm.findClass "com/example/ceresio/ceresio/StateFormatMalformedPinLaw" = some m.cls) (hby : c.code = code) (hml : c.maxLocals = 14) (hret : meth.sig.returnType = some .boolean) (hlk : meth.locks = false) (e0 : T0.heap = h0) (hS : s.Since vm0 k0) (hk : k0 ≤ h0.size) {vmA : Vm} {hA : Heap} (R0 : CHr Z own_EL vmA hA vm0 h0) (Z0 : n0 ≤ h0.size) (N0 : Fr n0 locs) (O0 : OldE Z h0) (hn0 : Z.heap.size ≤ n0) (S_CS : Sta Z Z.heap "java/lang/String" "COMPACT_STRINGS" "Z" (.int zc)) (P5 : ¬ zc = (0 : Int32)) (S_AD : Sta Z Z.heap "java/lang/StringUTF16" "$assertionsDisabled" "Z" (.int (1 : Int32))) (S_HI : Sta Z Z.heap "java/lang/StringUTF16" "HI_BYTE_SHIFT" "I" (.int (0 : Int32))) (S_LO : Sta Z Z.heap "java/lang/StringUTF16" "LO_BYTE_SHIFT" "I" (.int (8 : Int32))) (S_SI : Sta Z Z.heap "jdk/internal/util/Preconditions" "SIOOBE_FORMATTER" "Ljava/util/function/BiFunction;" fm) (rf : fm.isRef = true) (S_UN : Sta Z Z.heap "java/lang/Throwable" "UNASSIGNED_STACK" "[Ljava/lang/StackTraceElement;" (.ref ua)) (S_SP : Sta Z Z.heap "java/lang/Throwable" "SUPPRESSED_SENTINEL" "Ljava/util/List;" (.ref sa)) (hl : l.stackTraces = true) (hTK : s.vm.MethodsKnown) (hBelow : s.vm.FramesKnown below) (hc1 : cells ≤ 22) (hc2 : slots ≤ 600) (B_pp : Bs Z h0 pp (0 : Int32) own_PB) (V_ex : Arv Z h0 ex kx .char (Int32.ofNat (17 + cs.length)) ((own_P ++ cs).map Value.int) (.int (0 : Int32))) (hch : ∀ c ∈ own_P ++ cs, ¬ c < (0 : Int32) ∧ ¬ (65535 : Int32) < c) (B_8 : Bs Z h0 a8 (own_k cs) (own_b cs)) (hcl : cs.length ≤ 3) :
    ∃ s₂ o, Steps p.tables e below (T0.setTop (mkF m 421 #[z0, z1, z2, z3, z4, z5, z6, z7, .val (.ref a8), .val (.ref pp), .val (.ref ex), .unset, .unset, .unset] [])) s₂ ∧ s₂.status = .running ∧ Ended s₂ below o ∧ ∃ v L, o = .returned v ∧ (v = some (.int (1 : Int32)) ∧ Fr n0 L) ∧ ReturnedEndW s o s₂ L room_1.cells room_1.slots := by
  have go0 : Go p e below T0 (mkF m 421 #[z0, z1, z2, z3, z4, z5, z6, z7, .val (.ref a8), .val (.ref pp), .val (.ref ex), .unset, .unset, .unset] []) (T0.setTop (mkF m 421 #[z0, z1, z2, z3, z4, z5, z6, z7, .val (.ref a8), .val (.ref pp), .val (.ref ex), .unset, .unset, .unset] [])) := fun t k => k
  generalize (T0.setTop (mkF m 421 #[z0, z1, z2, z3, z4, z5, z6, z7, .val (.ref a8), .val (.ref pp), .val (.ref ex), .unset, .unset, .unset] [])) = S0 at go0 ⊢
  have K0 : Keep h0 h0 [] := Keep.refl h0 []
  have hcl4 : cs.length ≤ 4 := by omega
  have hlen : 17 + cs.length = (own_P ++ cs).length := by rw [List.length_append]; rfl
  obtain ⟨T1, h1, X1, e1, E1, A1, D1, -, st1⟩ := newO X0 hx hZ hown (wi hw 2 rfl) (wi hw 3 rfl) (wi hw 4 rfl) e0 (g := (mkF m 421 #[z0, z1, z2, z3, z4, z5, z6, z7, .val (.ref a8), .val (.ref pp), .val (.ref ex), .unset, .unset, .unset] [])) rfl (hb hby at_421) (by simp only [room_1]; omega) (by simp only [room_1]; omega)
  obtain ⟨xs, g1⟩ : ∃ z, z = h0.size := ⟨_, rfl⟩
  rw [← g1] at A1 D1 st1
  have g_xs : n0 ≤ xs := Nat.le_trans Z0 (Nat.le_of_eq g1.symm)
  have sz_xs : h0.size ≤ xs := Nat.le_trans K0.1 (Nat.le_of_eq g1.symm)
  have V_ex := V_ex.ext E1
  have Z0 := Nat.le_trans Z0 E1.1
  have K0 := K0.ext E1
  have go2 : Go p e below T1 (mkF m 424 #[z0, z1, z2, z3, z4, z5, z6, z7, .val (.ref a8), .val (.ref pp), .val (.ref ex), .unset, .unset, .unset] [(.ref xs)]) S0 := fun t kt => go0 t (st1 _ kt)
  have E_xs := A1
  have F_value_xs : Fld Z h1 xs "java/lang/String" "value" "[B" .null := D1 (Or.inr (wi hw 17 rfl)) (ty := (.array .byte)) (by decide)
  have F_coder_xs : Fld Z h1 xs "java/lang/String" "coder" "B" (.int (0 : Int32)) := D1 (Or.inr (wi hw 18 rfl)) (ty := .byte) (by decide)
  have go3 : Go p e below T1 (mkF m 427 #[z0, z1, z2, z3, z4, z5, z6, z7, .val (.ref a8), .val (.ref pp), .val (.ref ex), .unset, .unset, .unset] [(.ref ex), (.ref xs), (.ref xs)]) S0 := by
    intro tt kt
    refine go2 tt ?_
    refine XS.dup X1.here hx rfl (hb hby at_424) rfl rfl ?_
    refine XS.aload X1.here hx rfl (hb hby at_425) rfl rfl ?_
    exact kt
  obtain ⟨_, _, ⟨T4, L4, k4, n4⟩, -, X4, ⟨Lc4, hQ4, l4, y4, z4⟩, st4⟩ := X1.specialBack hx (y := y3_) rfl hown (mvT hZ (wi hw 5 rfl)) (mvT hZ (wi hw 6 rfl)) (mvT hZ (wi hw 7 rfl)) (by decide) (backOf (W := 1) (rm_si1 l Z a0 hw [] xs ex (17 + cs.length) kx (own_P ++ cs) zc h1 n0 Z0 (oO O0 K0 hn0 all0) hn0 S_AD S_HI S_LO S_CS P5 E_xs F_value_xs F_coder_xs g_xs hlen (by omega) (by omega) V_ex hch) hZ (wi hw 7 rfl) (wi hw 4 rfl) (by decide) (by decide)) (g := (mkF m 427 #[z0, z1, z2, z3, z4, z5, z6, z7, .val (.ref a8), .val (.ref pp), .val (.ref ex), .unset, .unset, .unset] [(.ref ex), (.ref xs), (.ref xs)])) rfl (by rw [hml]; rfl) (Steps.refl _) (a := xs) (argsL := [(.ref ex)]) (rest := [(.ref xs)]) (lenOf pd26_ rfl) rfl (by show 2 * 0 + _ ≤ _; exact Nat.le_of_eq rfl) (hb hby at_427) (fun _ _ => ⟨rfl, e1, (by dsimp only [Pt.cells, room_1]; omega), (by dsimp only [Pt.slots, room_1]; omega)⟩)
  dsimp only [Pt.U, Pt.locs, Pt.cells, Pt.slots] at X4 l4 y4 z4 st4 hQ4
  subst l4 y4 z4
  obtain ⟨rfl, N4q, K4, B_x⟩ := hQ4
  have K0 := K0.trans K4 (allS (Or.inr sz_xs) all0)
  have Z0 := Nat.le_trans Z0 K4.1
  have N4 := Fr.app N0 N4q
  have go5 : Go p e below T4 (mkF m 430 #[z0, z1, z2, z3, z4, z5, z6, z7, .val (.ref a8), .val (.ref pp), .val (.ref ex), .unset, .unset, .unset] [(.ref xs)]) S0 := fun t kt => go3 t (st4.trans kt)
  have EK := oE K0
  have O0 : OldE Z T4.heap := O0.ext EK
  have B_pp := B_pp.ext EK
  have hk := Nat.le_trans hk EK.1
  have R0 := R0.trans (CHr.ext EK R0.1)
  have B_8 := B_8.ext EK
  have go6 : Go p e below T4 (mkF m 434 #[z0, z1, z2, z3, z4, z5, z6, z7, .val (.ref a8), .val (.ref pp), .val (.ref ex), .val (.ref xs), .unset, .unset] [(.ref a8)]) S0 := by
    intro tt kt
    refine go5 tt ?_
    refine XS.astore X4.here hx rfl (hb hby at_430) rfl rfl (l' := #[z0, z1, z2, z3, z4, z5, z6, z7, .val (.ref a8), .val (.ref pp), .val (.ref ex), .val (.ref xs), .unset, .unset]) rfl ?_
    refine XS.aload X4.here hx rfl (hb hby at_432) rfl rfl ?_
    exact kt
  obtain ⟨_, _, ⟨T7, L7, k7, n7⟩, -, X7, hS7a, hg7, ⟨Lc7, hQ7, l7, y7, z7, CR7⟩, st7⟩ := callSS X4 hx (y := y8_) hown (mvT hZ (wi hw 57 rfl)) (mvT hZ (wi hw 58 rfl)) (mvT hZ (wi hw 59 rfl)) (mvT hZ (wi hw 60 rfl)) (by decide) (own_backK (W := 0) (rm_mal l Z a0 hw [] a8 cs fm zc ua sa T4.heap n0 Z0 O0 hn0 S_CS P5 S_AD S_HI S_LO S_SI rf hEL S_UN S_SP hl B_8 hcl) hZ (wi hw 60 rfl) (wi hw 59 rfl) (by decide) (by decide) hEL R0.1 (Vm.MethodsKnown.alikeC hS.1.alike hTK) (Vm.FramesKnown.alikeC hS.1.alike hBelow)) (g := (mkF m 434 #[z0, z1, z2, z3, z4, z5, z6, z7, .val (.ref a8), .val (.ref pp), .val (.ref ex), .val (.ref xs), .unset, .unset] [(.ref a8)])) rfl (by rw [hml]; rfl) (argsL := [(.ref a8)]) (rest := []) (lenOf pd0_ rfl) rfl (by show 2 * 0 + _ ≤ _; exact Nat.le_of_eq rfl) (hb hby at_434) (fun _ _ => ⟨rfl, rfl, (by dsimp only [Pt.cells, room_1]; omega), (by dsimp only [Pt.slots, room_1]; omega)⟩)
  dsimp only [Pt.U, Pt.locs, Pt.cells, Pt.slots] at X7 hS7a hg7 l7 y7 z7 CR7 st7 hQ7
  subst l7 y7 z7
  obtain ⟨e_, mm, rfl, N7q, E7, Ee, Ue, Fm, Fc, Bm⟩ := hQ7
  have hS7 : s.Since T7.vm T7.heap.size := foldS hS hk hS7a hg7
  have hk7 : T7.heap.size ≤ T7.heap.size := Nat.le_refl _
  have hZ7 : Z.Warmed39 (s.setVm T7.vm).vm := State.Warmed39.trans (t := s.setVm vm0) hZ hS7a.1
  have hown7 : (s.setVm T7.vm).vm.findClass "com/example/ceresio/ceresio/StateFormatMalformedPinLaw" = some m.cls := by rw [show (s.setVm T7.vm).vm = T7.vm from rfl, hS7a.1.alike.findClass]; exact hown
  have X7 : Stand p l e _ (s.setVm T7.vm) m _ below meth c T7 _ _ _ := X7
  have O0 := O0.ext E7
  have B_pp := B_pp.ext E7
  have B_x := B_x.ext E7
  have Z0 := Nat.le_trans Z0 E7.1
  have R0 := R0.trans CR7
  have N7 := Fr.app N4 N7q
  obtain ⟨kk7, hkk7⟩ : ∃ z, z = T7.heap.size := ⟨_, rfl⟩
  rw [← hkk7] at hS7
  have hk7 : kk7 ≤ T7.heap.size := Nat.le_of_eq hkk7
  have go8 : Go p e below T7 (mkF m 437 #[z0, z1, z2, z3, z4, z5, z6, z7, .val (.ref a8), .val (.ref pp), .val (.ref ex), .val (.ref xs), .unset, .unset] [(.ref e_)]) S0 := fun t kt => go6 t (st7.trans kt)
  have go9 : Go p e below T7 (mkF m 448 #[z0, z1, z2, z3, z4, z5, z6, z7, .val (.ref a8), .val (.ref pp), .val (.ref ex), .val (.ref xs), .val (.ref e_), .unset] [(.ref e_)]) S0 := by
    intro tt kt
    refine go8 tt ?_
    refine XS.astore X7.here hx rfl (hb hby at_437) rfl rfl (l' := #[z0, z1, z2, z3, z4, z5, z6, z7, .val (.ref a8), .val (.ref pp), .val (.ref ex), .val (.ref xs), .val (.ref e_), .unset]) rfl ?_
    refine XS.aload X7.here hx rfl (hb hby at_439) rfl rfl ?_
    refine XS.ifnonnullYes X7.here hx rfl (pc0 := 441) (pc' := 446) rfl (hb hby at_441) rfl (by decide) (by decide) ?_
    refine XS.aload X7.here hx rfl (hb hby at_446) rfl rfl ?_
    exact kt
  obtain ⟨cq10, kq10, q10a, q10b, q10c⟩ := isOf hZ7 rfl Ee
  obtain ⟨_, _, ⟨T10, L10, k10, n10⟩, -, X10, ⟨Lc10, hQ10, l10, y10, z10⟩, st10⟩ := X7.virtualBackUp hx (x := y56_) (y := y25_) (owner := "java/lang/Throwable") hown7 (mvT hZ7 (wi hw 250 rfl)) (mvT hZ7 (wi hw 251 rfl)) (mvT hZ7 (wi hw 252 rfl)) (by decide) (mvT hZ7 (wi hw 254 rfl)) (mvT hZ7 (wi hw 253 rfl)) (backOf (W := 0) (rm_gm l Z a0 hw [] e_ mm T7.heap n0 Z0 Fm) hZ7 (wi hw 255 rfl) (wi hw 211 rfl) (by decide) (by decide)) q10a q10c (g := (mkF m 448 #[z0, z1, z2, z3, z4, z5, z6, z7, .val (.ref a8), .val (.ref pp), .val (.ref ex), .val (.ref xs), .val (.ref e_), .unset] [(.ref e_)])) rfl (by rw [hml]; rfl) (Steps.refl _) (argsL := []) (rest := []) (lenOf pd13_ rfl) rfl (by show 2 * 0 + _ ≤ _; exact Nat.le_of_eq rfl) (hb hby at_448) (fun _ _ => ⟨rfl, rfl, (by dsimp only [Pt.cells, room_1]; omega), (by dsimp only [Pt.slots, room_1]; omega)⟩)
  dsimp only [Pt.U, Pt.locs, Pt.cells, Pt.slots] at X10 l10 y10 z10 st10 hQ10
  subst l10 y10 z10
  obtain ⟨rfl, N10q, g10⟩ := hQ10
  rw [← g10] at B_pp B_x O0 Ee Ue Fm Fc Bm Z0 hk7 R0
  have N10 := Fr.app N7 N10q
  have go11 : Go p e below T10 (mkF m 451 #[z0, z1, z2, z3, z4, z5, z6, z7, .val (.ref a8), .val (.ref pp), .val (.ref ex), .val (.ref xs), .val (.ref e_), .unset] [(.ref mm)]) S0 := fun t kt => go9 t (st10.trans kt)
  obtain ⟨tp, ktp, E_pp, C_pp, V_pp, A_tp⟩ := id B_pp
  have go12 : Go p e below T10 (mkF m 462 #[z0, z1, z2, z3, z4, z5, z6, z7, .val (.ref a8), .val (.ref pp), .val (.ref ex), .val (.ref xs), .val (.ref e_), .val (.ref mm)] [(.ref pp)]) S0 := by
    intro tt kt
    refine go11 tt ?_
    refine XS.astore X10.here hx rfl (hb hby at_451) rfl rfl (l' := #[z0, z1, z2, z3, z4, z5, z6, z7, .val (.ref a8), .val (.ref pp), .val (.ref ex), .val (.ref xs), .val (.ref e_), .val (.ref mm)]) rfl ?_
    refine XS.aload X10.here hx rfl (hb hby at_453) rfl rfl ?_
    refine XS.ifnonnullYes X10.here hx rfl (pc0 := 455) (pc' := 460) rfl (hb hby at_455) rfl (by decide) (by decide) ?_
    refine XS.aload X10.here hx rfl (hb hby at_460) rfl rfl ?_
    exact kt
  obtain ⟨cq13, kq13, q13a, q13b, q13c⟩ := isOf hZ7 rfl E_pp
  obtain ⟨_, _, ⟨T13, L13, k13, n13⟩, -, X13, ⟨Lc13, hQ13, l13, y13, z13⟩, st13⟩ := X10.virtualBack hx (y := y1_) (z := y1_) hown7 (mvT hZ7 (wi hw 256 rfl)) (mvT hZ7 (wi hw 94 rfl)) (notFace_of_selects (args := #[]) (mvT hZ7 (wi hw 96 rfl))) (mvT hZ7 (wi hw 96 rfl)) (mvT hZ7 (wi hw 95 rfl)) (by decide) (backOf (W := 0) (rm_slen l Z a0 hw [] pp tp ktp (0 : Int32) own_PB (17 : Int32) zc T10.heap n0 Z0 O0 hn0 S_CS P5 E_pp C_pp V_pp A_tp (by decide) (by rw [own_PBl]; decide)) hZ7 (wi hw 97 rfl) (wi hw 4 rfl) (by decide) (by decide)) q13a q13c (g := (mkF m 462 #[z0, z1, z2, z3, z4, z5, z6, z7, .val (.ref a8), .val (.ref pp), .val (.ref ex), .val (.ref xs), .val (.ref e_), .val (.ref mm)] [(.ref pp)])) rfl (by rw [hml]; rfl) (Steps.refl _) (argsL := []) (rest := []) (lenOf pd37_ rfl) rfl (by show 2 * 0 + _ ≤ _; exact Nat.le_of_eq rfl) (hb hby at_462) (fun _ _ => ⟨rfl, rfl, (by dsimp only [Pt.cells, room_1]; omega), (by dsimp only [Pt.slots, room_1]; omega)⟩)
  dsimp only [Pt.U, Pt.locs, Pt.cells, Pt.slots] at X13 l13 y13 z13 st13 hQ13
  subst l13 y13 z13
  obtain ⟨rfl, N13q, g13⟩ := hQ13
  rw [← g13] at B_pp B_x O0 Ee Ue Fm Fc Bm Z0 hk7 R0
  have N13 := Fr.app N10 N13q
  have go14 : Go p e below T13 (mkF m 465 #[z0, z1, z2, z3, z4, z5, z6, z7, .val (.ref a8), .val (.ref pp), .val (.ref ex), .val (.ref xs), .val (.ref e_), .val (.ref mm)] [(.int (17 : Int32))]) S0 := fun t kt => go12 t (st13.trans kt)
  obtain ⟨t1, kt1, E_1, C_1, V_1, A_1⟩ := id Bm
  obtain ⟨t2, kt2, E_2, C_2, V_2, A_2⟩ := id B_x
  have go15 : Go p e below T13 (mkF m 474 #[z0, z1, z2, z3, z4, z5, z6, z7, .val (.ref a8), .val (.ref pp), .val (.ref ex), .val (.ref xs), .val (.ref e_), .val (.ref mm)] [(.ref xs), (.ref mm)]) S0 := by
    intro tt kt
    refine go14 tt ?_
    refine XS.bipush X13.here hx rfl (hb hby at_465) ?_
    refine XS.icmpNo X13.here hx rfl (hb hby at_467) rfl (teq (rfl : (17 : Int32) = (17 : Int32))).2 ?_
    refine XS.aload X13.here hx rfl (hb hby at_470) rfl rfl ?_
    refine XS.aload X13.here hx rfl (hb hby at_472) rfl rfl ?_
    exact kt
  obtain ⟨cq16, kq16, q16a, q16b, q16c⟩ := isOf hZ7 rfl E_1
  obtain ⟨_, _, ⟨T16, L16, k16, n16⟩, -, X16, ⟨Lc16, hQ16, l16, y16, z16⟩, st16⟩ := X13.virtualBack hx (y := y12_) (z := y12_) hown7 (mvT hZ7 (wi hw 257 rfl)) (mvT hZ7 (wi hw 258 rfl)) (notFace_of_selects (args := #[]) (mvT hZ7 (wi hw 260 rfl))) (mvT hZ7 (wi hw 260 rfl)) (mvT hZ7 (wi hw 259 rfl)) (by decide) (backOf (W := 0) (rm_eqS l Z a0 hw [] mm xs t1 t2 kt1 kt2 (own_k (own_P ++ cs)) (own_b (own_P ++ cs)) zc T13.heap n0 Z0 O0 hn0 S_CS P5 E_1 C_1 V_1 A_1 E_2 C_2 V_2 A_2 (own_bl _ (by omega)) (own_int_b _)) hZ7 (wi hw 261 rfl) (wi hw 4 rfl) (by decide) (by decide)) q16a q16c (g := (mkF m 474 #[z0, z1, z2, z3, z4, z5, z6, z7, .val (.ref a8), .val (.ref pp), .val (.ref ex), .val (.ref xs), .val (.ref e_), .val (.ref mm)] [(.ref xs), (.ref mm)])) rfl (by rw [hml]; rfl) (Steps.refl _) (argsL := [(.ref xs)]) (rest := []) (lenOf pd12_ rfl) rfl (by show 2 * 0 + _ ≤ _; exact Nat.le_of_eq rfl) (hb hby at_474) (fun _ _ => ⟨rfl, rfl, (by dsimp only [Pt.cells, room_1]; omega), (by dsimp only [Pt.slots, room_1]; omega)⟩)
  dsimp only [Pt.U, Pt.locs, Pt.cells, Pt.slots] at X16 l16 y16 z16 st16 hQ16
  subst l16 y16 z16
  obtain ⟨rfl, N16q, g16⟩ := hQ16
  rw [← g16] at B_pp B_x O0 Ee Ue Fm Fc Bm Z0 hk7 R0
  have N16 := Fr.app N13 N16q
  have go17 : Go p e below T16 (mkF m 477 #[z0, z1, z2, z3, z4, z5, z6, z7, .val (.ref a8), .val (.ref pp), .val (.ref ex), .val (.ref xs), .val (.ref e_), .val (.ref mm)] [(.int (1 : Int32))]) S0 := fun t kt => go15 t (st16.trans kt)
  have go18 : Go p e below T16 (mkF m 482 #[z0, z1, z2, z3, z4, z5, z6, z7, .val (.ref a8), .val (.ref pp), .val (.ref ex), .val (.ref xs), .val (.ref e_), .val (.ref mm)] [(.ref e_)]) S0 := by
    intro tt kt
    refine go17 tt ?_
    refine XS.ifNo X16.here hx rfl (hb hby at_477) rfl ((if0 _ _).trans (feq (by decide)).1) ?_
    refine XS.aload X16.here hx rfl (hb hby at_480) rfl rfl ?_
    exact kt
  obtain ⟨cq19, kq19, q19a, q19b, q19c⟩ := isOf hZ7 rfl Ee
  obtain ⟨_, _, ⟨T19, L19, k19, n19⟩, -, X19, ⟨Lc19, hQ19, l19, y19, z19⟩, st19⟩ := X16.virtualBackUp hx (x := y54_) (y := y52_) (owner := "java/lang/Throwable") hown7 (mvT hZ7 (wi hw 266 rfl)) (mvT hZ7 (wi hw 267 rfl)) (mvT hZ7 (wi hw 268 rfl)) (by decide) (mvT hZ7 (wi hw 270 rfl)) (mvT hZ7 (wi hw 269 rfl)) (gcBackPure (W := 0) (rm := ({ frames := 0, cells := 0, slots := 0, locals := 0 } : Room)) hZ7 (wi hw 271 rfl) (wi hw 269 rfl) (wi hw 211 rfl) (wi hw 214 rfl) Ue Fc rfl (by decide) (by decide)) q19a q19c (g := (mkF m 482 #[z0, z1, z2, z3, z4, z5, z6, z7, .val (.ref a8), .val (.ref pp), .val (.ref ex), .val (.ref xs), .val (.ref e_), .val (.ref mm)] [(.ref e_)])) rfl (by rw [hml]; rfl) (Steps.refl _) (argsL := []) (rest := []) (lenOf pd9_ rfl) rfl (by show 2 * 0 + _ ≤ _; exact Nat.le_of_eq rfl) (hb hby at_482) (fun _ _ => ⟨rfl, rfl, (by dsimp only [Pt.cells, room_1]; omega), (by dsimp only [Pt.slots, room_1]; omega)⟩)
  dsimp only [Pt.U, Pt.locs, Pt.cells, Pt.slots] at X19 l19 y19 z19 st19 hQ19
  subst l19 y19 z19
  obtain rfl := Lc19
  rw [own_gcn] at st19
  have N19q : Fr n0 [] := Fr.nil n0
  have N19 : Fr n0 _ := N16
  rw [← hQ19] at B_pp B_x O0 Ee Ue Fm Fc Bm Z0 hk7 R0
  have go20 : Go p e below T19 (mkF m 485 #[z0, z1, z2, z3, z4, z5, z6, z7, .val (.ref a8), .val (.ref pp), .val (.ref ex), .val (.ref xs), .val (.ref e_), .val (.ref mm)] [.null]) S0 := fun t kt => go18 t (st19.trans kt)
  have go21 : Go p e below T19 (mkF m 493 #[z0, z1, z2, z3, z4, z5, z6, z7, .val (.ref a8), .val (.ref pp), .val (.ref ex), .val (.ref xs), .val (.ref e_), .val (.ref mm)] [(.int (1 : Int32))]) S0 := by
    intro tt kt
    refine go20 tt ?_
    refine XS.ifnonnullNo X19.here hx rfl (hb hby at_485) rfl ?_
    refine XS.iconst X19.here hx rfl (hb hby at_488) ?_
    refine XS.goto X19.here hx rfl (pc0 := 489) (pc' := 493) rfl (hb hby at_489) (by decide) (by decide) ?_
    exact kt
  obtain ⟨fs, hr, hrun, hended, hend⟩ := X19.leaveW hS7 (hk7) (v := some (.int (1 : Int32))) (fun h => by rw [hret] at h; cases h)
  refine ⟨_, _, go21 _ ?_, hrun, hended, _, _, rfl, ⟨rfl, N19⟩, hend.1, hend.2.1, hend.2.2.1, hend.2.2.2.mono (by simp only [room_1]; omega) (by simp only [room_1]; omega)⟩
  exact retN X19 hx (t := .boolean) hret (by simp) (hb hby at_493) hr
def own_t (p2 : Int32) : Int32 := ((p2 &&& (65535 : Int32)).toUInt32.toUInt16.toUInt32.toInt32)
theorem own_narC (x : Int32) : ¬ nar .char x < (0 : Int32) ∧ ¬ (65535 : Int32) < nar .char x := by
  have h : ∀ u : UInt16, (u.toUInt32.toInt32).toInt = u.toNat := fun u => by
    have hu := u.toNat_lt
    show ((u.toUInt32).toBitVec).toInt = _
    rw [BitVec.toInt_eq_toNat_cond]
    have e : (u.toUInt32).toBitVec.toNat = u.toNat := rfl
    rw [e, if_pos (by omega)]
  have e := h x.toUInt32.toUInt16
  have hu := x.toUInt32.toUInt16.toNat_lt
  have e1 : (nar .char x).toInt = x.toUInt32.toUInt16.toNat := e
  rw [Int32.lt_iff_toInt_lt, Int32.lt_iff_toInt_lt, e1]
  have e0 : (0 : Int32).toInt = 0 := rfl
  have e2 : (65535 : Int32).toInt = 65535 := rfl
  omega
theorem own_chPall : ∀ c ∈ own_P, ¬ c < (0 : Int32) ∧ ¬ (65535 : Int32) < c := by decide +kernel
theorem own_chcat {cs : List Int32} (h : ∀ c ∈ cs, ∃ x, c = nar .char x) : ∀ c ∈ own_P ++ cs, ¬ c < (0 : Int32) ∧ ¬ (65535 : Int32) < c := fun c hc => by
  rcases List.mem_append.mp hc with q | q
  · exact own_chPall c q
  · obtain ⟨x, rfl⟩ := h c q; exact own_narC x
theorem own_and7 (p : Int32) (h : (p &&& (7 : Int32)) < (4 : Int32)) : (p &&& (7 : Int32)) = 0 ∨ (p &&& (7 : Int32)) = 1 ∨ (p &&& (7 : Int32)) = 2 ∨ (p &&& (7 : Int32)) = 3 := by
  have e := Jvm.Kit.i32_mask p 7 (k := 3) (by decide) (by decide)
  rw [Int32.lt_iff_toInt_lt, e] at h
  have e4 : (4 : Int32).toInt = 4 := rfl
  have : p.toInt % 2 ^ 3 = 0 ∨ p.toInt % 2 ^ 3 = 1 ∨ p.toInt % 2 ^ 3 = 2 ∨ p.toInt % 2 ^ 3 = 3 := by omega
  rcases this with q | q | q | q
  · exact Or.inl (Int32.toInt_inj.mp (e.trans q))
  · exact Or.inr (Or.inl (Int32.toInt_inj.mp (e.trans q)))
  · exact Or.inr (Or.inr (Or.inl (Int32.toInt_inj.mp (e.trans q))))
  · exact Or.inr (Or.inr (Or.inr (Int32.toInt_inj.mp (e.trans q))))
theorem pnj_0 : plainName "com/example/ceresio/ceresio/StateFormatMalformedPinLaw" = true := by first | (simp [plainName, overriddenIn]; done) | decide +kernel
theorem efj_rm0 (m : MethodId) (p1 : Int32) (p2 : Int32) (p3 : Int32) (p4 : Int32) : entryFrame m #[(.int p1), (.int p2), (.int p3), (.int p4)] maxLocals = mkF m 0 #[.val (.int p1), .val (.int p2), .val (.int p3), .val (.int p4), .unset, .unset, .unset, .unset, .unset, .unset, .unset, .unset, .unset, .unset] [] := by first | (simp [entryFrame, mkF, argsToLocals, Value.category, maxLocals]; done) | rfl
def Q_rm0 (Z : State) (p1 : Int32) (p2 : Int32) (p3 : Int32) (p4 : Int32) (zc : Int32) (fm : Value) (ua : Addr) (sa : Addr) (h0 : Heap) (n0 : Nat) (v : Option Value) (h : Heap) (L : List Loc) : Prop := v = some (.int (1 : Int32)) ∧ Fr n0 L
theorem rm0 (l : Launch) (Z : State) (a0 : Array Value) (hw : ∀ d ∈ tables_1, d.before a0 Z = true) (ws : List Jvm.Cond) (p1 : Int32) (p2 : Int32) (p3 : Int32) (p4 : Int32) (zc : Int32) (fm : Value) (ua : Addr) (sa : Addr) (h0 : Heap) (n0 : Nat) (Z0 : n0 ≤ h0.size) (hEL : EW Z a0 own_EL) (O0 : OldE Z h0) (hn0 : Z.heap.size ≤ n0) (S_CS : Sta Z Z.heap "java/lang/String" "COMPACT_STRINGS" "Z" (.int zc)) (P5 : ¬ zc = (0 : Int32)) (S_AD : Sta Z Z.heap "java/lang/StringUTF16" "$assertionsDisabled" "Z" (.int (1 : Int32))) (S_HI : Sta Z Z.heap "java/lang/StringUTF16" "HI_BYTE_SHIFT" "I" (.int (0 : Int32))) (S_LO : Sta Z Z.heap "java/lang/StringUTF16" "LO_BYTE_SHIFT" "I" (.int (8 : Int32))) (S_SI : Sta Z Z.heap "jdk/internal/util/Preconditions" "SIOOBE_FORMATTER" "Ljava/util/function/BiFunction;" fm) (rf : fm.isRef = true) (S_UN : Sta Z Z.heap "java/lang/Throwable" "UNASSIGNED_STACK" "[Ljava/lang/StackTraceElement;" (.ref ua)) (S_SP : Sta Z Z.heap "java/lang/Throwable" "SUPPRESSED_SENTINEL" "Ljava/util/List;" (.ref sa)) (hl : l.stackTraces = true) :
    MetFree l x (head1 (Jvm.Cond.code x code maxLocals ret :: ws) room_1) (fun a U => a = #[(.int p1), (.int p2), (.int p3), (.int p4)] ∧ Z.Warmed39 U.vm ∧ U.heap = h0 ∧ CHv Z own_EL U.vm h0) (fun _ _ _ st _ => framesKnown st = true ∧ tablesKnown st = true) (fun _ U o U' => ∃ v L, o = .returned v ∧ Q_rm0 Z p1 p2 p3 p4 zc fm ua sa h0 n0 v U'.heap L ∧ ReturnedEndW U o U' L room_1.cells room_1.slots) := by
  refine MetFree.of_bodySF (plainFor_of_name pnj_0) hisR ?_
  intro p e s m args below meth c s₁ Bd hml0 hP hK
  obtain ⟨rfl, hZ, hh, CH⟩ := hP
  have hx := Bd.exec
  have hby := Bd.bytes
  have hml : c.maxLocals = 14 := hml0
  have hown : s.vm.findClass "com/example/ceresio/ceresio/StateFormatMalformedPinLaw" = some m.cls := findClass_of_methodNamed Bd.named
  have hnm := (name_of_methodNamed Bd.named Bd.method).1
  have X0 : Stand p l e room_1 s m #[(.int p1), (.int p2), (.int p3), (.int p4)] below meth c s₁ [] 0 0 := Stand.of_body Bd
  have e0 : s₁.heap = h0 := by rw [← hh, Bd.state]; rfl
  have N0 := Fr.nil n0
  have go0 : Go p e below s₁ (mkF m 0 #[.val (.int p1), .val (.int p2), .val (.int p3), .val (.int p4), .unset, .unset, .unset, .unset, .unset, .unset, .unset, .unset, .unset, .unset] []) (s₁.setTop (entryFrame m #[(.int p1), (.int p2), (.int p3), (.int p4)] maxLocals)) := fun t k => castTop (efj_rm0 m p1 p2 p3 p4) k
  generalize (s₁.setTop (entryFrame m #[(.int p1), (.int p2), (.int p3), (.int p4)] maxLocals)) = S0 at go0 ⊢
  have hS : s.Since s.vm s.heap.size := own_since s
  have hk : s.heap.size ≤ h0.size := by rw [← hh]; exact Nat.le_refl _
  obtain ⟨hTK, hBelow⟩ := X0.known hK.2 hK.1
  have X0 : Stand p l e _ (s.setVm s.vm) m _ below meth c s₁ [] 0 0 := X0
  have hZ : Z.Warmed39 (s.setVm s.vm).vm := hZ
  have hown : (s.setVm s.vm).vm.findClass "com/example/ceresio/ceresio/StateFormatMalformedPinLaw" = some m.cls := hown
  have R0 : CHr Z own_EL s.vm h0 s.vm h0 := CHr.refl CH
  have hstr : ∀ d ∈ Bundle.stringAtoms, d.before a0 Z = true := fun d hd => hw d (own_strAtoms d hd)
  have K0 : Keep h0 h0 [] := Keep.refl h0 []
  have go1 : Go p e below s₁ (mkF m 9 #[.val (.int p1), .val (.int p2), .val (.int p3), .val (.int p4), .val (.int (p1 &&& (7 : Int32))), .unset, .unset, .unset, .unset, .unset, .unset, .unset, .unset, .unset] [(.int (4 : Int32)), (.int (p1 &&& (7 : Int32)))]) S0 := by
    intro tt kt
    refine go0 tt ?_
    refine XS.iloadN X0.here hx rfl (hb hby at_0) rfl ?_
    refine XS.bipush X0.here hx rfl (hb hby at_1) ?_
    refine XS.iand X0.here hx rfl (hb hby at_3) rfl ?_
    refine XS.istore X0.here hx rfl (hb hby at_4) rfl (l' := #[.val (.int p1), .val (.int p2), .val (.int p3), .val (.int p4), .val (.int (p1 &&& (7 : Int32))), .unset, .unset, .unset, .unset, .unset, .unset, .unset, .unset, .unset]) rfl ?_
    refine XS.iload X0.here hx rfl (hb hby at_6) rfl ?_
    refine XS.iconst X0.here hx rfl (hb hby at_8) ?_
    exact kt
  by_cases h4 : (p1 &&& (7 : Int32)) < (4 : Int32)
  · have go2 : Go p e below s₁ (mkF m 33 #[.val (.int p1), .val (.int p2), .val (.int p3), .val (.int p4), .val (.int (p1 &&& (7 : Int32))), .val (.int (0 : Int32)), .val (.int (p1 &&& (7 : Int32))), .unset, .unset, .unset, .unset, .unset, .unset, .unset] [(.int (4 : Int32))]) S0 := by
      intro tt kt
      refine go1 tt ?_
      refine XS.icmpYes X0.here hx rfl (pc0 := 9) (pc' := 16) rfl (hb hby at_9) rfl (tlt h4).1 (by decide) (by decide) ?_
      refine XS.iconst X0.here hx rfl (hb hby at_16) ?_
      refine XS.istore X0.here hx rfl (hb hby at_17) rfl (l' := #[.val (.int p1), .val (.int p2), .val (.int p3), .val (.int p4), .val (.int (p1 &&& (7 : Int32))), .val (.int (0 : Int32)), .unset, .unset, .unset, .unset, .unset, .unset, .unset, .unset]) rfl ?_
      refine XS.iload X0.here hx rfl (hb hby at_19) rfl ?_
      refine XS.ifYes X0.here hx rfl (pc0 := 21) (pc' := 28) rfl (hb hby at_21) rfl ((if0 _ _).trans (teq (rfl : (0 : Int32) = (0 : Int32))).1) (by decide) (by decide) ?_
      refine XS.iload X0.here hx rfl (hb hby at_28) rfl ?_
      refine XS.istore X0.here hx rfl (hb hby at_30) rfl (l' := #[.val (.int p1), .val (.int p2), .val (.int p3), .val (.int p4), .val (.int (p1 &&& (7 : Int32))), .val (.int (0 : Int32)), .val (.int (p1 &&& (7 : Int32))), .unset, .unset, .unset, .unset, .unset, .unset, .unset]) rfl ?_
      refine XS.iconst X0.here hx rfl (hb hby at_32) ?_
      exact kt
    obtain ⟨T3, h3, k3, X3, e3, E3, A3, st3⟩ := newP X0 hx hZ (wi hw 0 rfl) e0 (g := (mkF m 33 #[.val (.int p1), .val (.int p2), .val (.int p3), .val (.int p4), .val (.int (p1 &&& (7 : Int32))), .val (.int (0 : Int32)), .val (.int (p1 &&& (7 : Int32))), .unset, .unset, .unset, .unset, .unset, .unset, .unset] [(.int (4 : Int32))])) rfl (hb hby at_33) rfl (by decide) (cap := 4) (by decide) (by decide) (by decide) (by decide)
    obtain ⟨tl, g3⟩ : ∃ z, z = h0.size := ⟨_, rfl⟩
    rw [← g3] at A3 st3
    have g_tl : n0 ≤ tl := Nat.le_trans Z0 (Nat.le_of_eq g3.symm)
    have sz_tl : h0.size ≤ tl := Nat.le_trans K0.1 (Nat.le_of_eq g3.symm)
    have Z0 := Nat.le_trans Z0 E3.1
    have K0 := K0.ext E3
    have go4 : Go p e below T3 (mkF m 35 #[.val (.int p1), .val (.int p2), .val (.int p3), .val (.int p4), .val (.int (p1 &&& (7 : Int32))), .val (.int (0 : Int32)), .val (.int (p1 &&& (7 : Int32))), .unset, .unset, .unset, .unset, .unset, .unset, .unset] [(.ref tl)]) S0 := fun t kt => go2 t (st3 _ kt)
    have V_tl : Arv Z h3 tl k3 .char (4 : Int32) [(.int (0 : Int32)), (.int (0 : Int32)), (.int (0 : Int32)), (.int (0 : Int32))] (.int (0 : Int32)) := (Arv.new A3 (by decide)).pad (pad_rep [] (.int (0 : Int32)) 4)
    have go5 : Go p e below T3 (mkF m 80 #[.val (.int p1), .val (.int p2), .val (.int p3), .val (.int p4), .val (.int (p1 &&& (7 : Int32))), .val (.int (0 : Int32)), .val (.int (p1 &&& (7 : Int32))), .val (.ref tl), .val .null, .unset, .unset, .unset, .unset, .unset] [(.int (own_t p2)), (.int (0 : Int32)), (.ref tl)]) S0 := by
      intro tt kt
      refine go4 tt ?_
      refine XS.astore X3.here hx rfl (hb hby at_35) rfl rfl (l' := #[.val (.int p1), .val (.int p2), .val (.int p3), .val (.int p4), .val (.int (p1 &&& (7 : Int32))), .val (.int (0 : Int32)), .val (.int (p1 &&& (7 : Int32))), .val (.ref tl), .unset, .unset, .unset, .unset, .unset, .unset]) rfl ?_
      refine XS.aconstNull X3.here hx rfl (hb hby at_37) ?_
      refine XS.astore X3.here hx rfl (hb hby at_38) rfl rfl (l' := #[.val (.int p1), .val (.int p2), .val (.int p3), .val (.int p4), .val (.int (p1 &&& (7 : Int32))), .val (.int (0 : Int32)), .val (.int (p1 &&& (7 : Int32))), .val (.ref tl), .val .null, .unset, .unset, .unset, .unset, .unset]) rfl ?_
      refine XS.iload X3.here hx rfl (hb hby at_40) rfl ?_
      refine XS.ifYes X3.here hx rfl (pc0 := 42) (pc' := 72) rfl (hb hby at_42) rfl ((if0 _ _).trans (teq (rfl : (0 : Int32) = (0 : Int32))).1) (by decide) (by decide) ?_
      refine XS.aload X3.here hx rfl (hb hby at_72) rfl rfl ?_
      refine XS.iconst X3.here hx rfl (hb hby at_74) ?_
      refine XS.iloadN X3.here hx rfl (hb hby at_75) rfl ?_
      refine X3.ldcInt hx hown (mvT hZ (wi hw 1 rfl)) (g := (mkF m 76 #[.val (.int p1), .val (.int p2), .val (.int p3), .val (.int p4), .val (.int (p1 &&& (7 : Int32))), .val (.int (0 : Int32)), .val (.int (p1 &&& (7 : Int32))), .val (.ref tl), .val .null, .unset, .unset, .unset, .unset, .unset] [(.int p2), (.int (0 : Int32)), (.ref tl)])) rfl (hb hby at_76) _ ?_
      refine XS.iand X3.here hx rfl (hb hby at_78) rfl ?_
      refine XS.i2c X3.here hx rfl (hb hby at_79) rfl ?_
      exact kt
    obtain ⟨cl6, Ar6, q6, S6, N6, H6, G6⟩ := V_tl
    obtain ⟨T6, h6, X6, e6, W6, st6⟩ := stC X3 hx hZ e3 Ar6 (j := (0 : Int32)) (inb_of S6 ⟨by decide, by decide⟩) (g := (mkF m 80 #[.val (.int p1), .val (.int p2), .val (.int p3), .val (.int p4), .val (.int (p1 &&& (7 : Int32))), .val (.int (0 : Int32)), .val (.int (p1 &&& (7 : Int32))), .val (.ref tl), .val .null, .unset, .unset, .unset, .unset, .unset] [(.int (own_t p2)), (.int (0 : Int32)), (.ref tl)])) rfl rfl (hb hby at_80)
    have V_tl : Arv Z h6 tl k3 .char (4 : Int32) [(.int (nar .char (own_t p2))), (.int (0 : Int32)), (.int (0 : Int32)), (.int (0 : Int32))] (.int (0 : Int32)) := Arv.set Ar6 q6 S6 N6 H6 G6 (fits_nar_char _) W6 0 rfl (Nat.le_of_ble_eq_true rfl)
    have Z0 := Nat.le_trans Z0 (Keep.of_wr W6).1
    have K0 := K0.wr W6 (Or.inr sz_tl)
    have N6r := Fr.snoc X6 N0 g_tl
    have go7 : Go p e below T6 (mkF m 81 #[.val (.int p1), .val (.int p2), .val (.int p3), .val (.int p4), .val (.int (p1 &&& (7 : Int32))), .val (.int (0 : Int32)), .val (.int (p1 &&& (7 : Int32))), .val (.ref tl), .val .null, .unset, .unset, .unset, .unset, .unset] []) S0 := fun t kt => go5 t (st6 _ kt)
    have go8 : Go p e below T6 (mkF m 89 #[.val (.int p1), .val (.int p2), .val (.int p3), .val (.int p4), .val (.int (p1 &&& (7 : Int32))), .val (.int (0 : Int32)), .val (.int (p1 &&& (7 : Int32))), .val (.ref tl), .val .null, .unset, .unset, .unset, .unset, .unset] [(.int (own_t p3)), (.int (1 : Int32)), (.ref tl)]) S0 := by
      intro tt kt
      refine go7 tt ?_
      refine XS.aload X6.here hx rfl (hb hby at_81) rfl rfl ?_
      refine XS.iconst X6.here hx rfl (hb hby at_83) ?_
      refine XS.iloadN X6.here hx rfl (hb hby at_84) rfl ?_
      refine X6.ldcInt hx hown (mvT hZ (wi hw 1 rfl)) (g := (mkF m 85 #[.val (.int p1), .val (.int p2), .val (.int p3), .val (.int p4), .val (.int (p1 &&& (7 : Int32))), .val (.int (0 : Int32)), .val (.int (p1 &&& (7 : Int32))), .val (.ref tl), .val .null, .unset, .unset, .unset, .unset, .unset] [(.int p3), (.int (1 : Int32)), (.ref tl)])) rfl (hb hby at_85) _ ?_
      refine XS.iand X6.here hx rfl (hb hby at_87) rfl ?_
      refine XS.i2c X6.here hx rfl (hb hby at_88) rfl ?_
      exact kt
    obtain ⟨cl9, Ar9, q9, S9, N9, H9, G9⟩ := V_tl
    obtain ⟨T9, h9, X9, e9, W9, st9⟩ := stC X6 hx hZ e6 Ar9 (j := (1 : Int32)) (inb_of S9 ⟨by decide, by decide⟩) (g := (mkF m 89 #[.val (.int p1), .val (.int p2), .val (.int p3), .val (.int p4), .val (.int (p1 &&& (7 : Int32))), .val (.int (0 : Int32)), .val (.int (p1 &&& (7 : Int32))), .val (.ref tl), .val .null, .unset, .unset, .unset, .unset, .unset] [(.int (own_t p3)), (.int (1 : Int32)), (.ref tl)])) rfl rfl (hb hby at_89)
    have V_tl : Arv Z h9 tl k3 .char (4 : Int32) [(.int (nar .char (own_t p2))), (.int (nar .char (own_t p3))), (.int (0 : Int32)), (.int (0 : Int32))] (.int (0 : Int32)) := Arv.set Ar9 q9 S9 N9 H9 G9 (fits_nar_char _) W9 1 rfl (Nat.le_of_ble_eq_true rfl)
    have Z0 := Nat.le_trans Z0 (Keep.of_wr W9).1
    have K0 := K0.wr W9 (Or.inr sz_tl)
    have N9r := Fr.snoc X9 N6r g_tl
    have go10 : Go p e below T9 (mkF m 90 #[.val (.int p1), .val (.int p2), .val (.int p3), .val (.int p4), .val (.int (p1 &&& (7 : Int32))), .val (.int (0 : Int32)), .val (.int (p1 &&& (7 : Int32))), .val (.ref tl), .val .null, .unset, .unset, .unset, .unset, .unset] []) S0 := fun t kt => go8 t (st9 _ kt)
    have go11 : Go p e below T9 (mkF m 98 #[.val (.int p1), .val (.int p2), .val (.int p3), .val (.int p4), .val (.int (p1 &&& (7 : Int32))), .val (.int (0 : Int32)), .val (.int (p1 &&& (7 : Int32))), .val (.ref tl), .val .null, .unset, .unset, .unset, .unset, .unset] [(.int (own_t p4)), (.int (2 : Int32)), (.ref tl)]) S0 := by
      intro tt kt
      refine go10 tt ?_
      refine XS.aload X9.here hx rfl (hb hby at_90) rfl rfl ?_
      refine XS.iconst X9.here hx rfl (hb hby at_92) ?_
      refine XS.iloadN X9.here hx rfl (hb hby at_93) rfl ?_
      refine X9.ldcInt hx hown (mvT hZ (wi hw 1 rfl)) (g := (mkF m 94 #[.val (.int p1), .val (.int p2), .val (.int p3), .val (.int p4), .val (.int (p1 &&& (7 : Int32))), .val (.int (0 : Int32)), .val (.int (p1 &&& (7 : Int32))), .val (.ref tl), .val .null, .unset, .unset, .unset, .unset, .unset] [(.int p4), (.int (2 : Int32)), (.ref tl)])) rfl (hb hby at_94) _ ?_
      refine XS.iand X9.here hx rfl (hb hby at_96) rfl ?_
      refine XS.i2c X9.here hx rfl (hb hby at_97) rfl ?_
      exact kt
    obtain ⟨cl12, Ar12, q12, S12, N12, H12, G12⟩ := V_tl
    obtain ⟨T12, h12, X12, e12, W12, st12⟩ := stC X9 hx hZ e9 Ar12 (j := (2 : Int32)) (inb_of S12 ⟨by decide, by decide⟩) (g := (mkF m 98 #[.val (.int p1), .val (.int p2), .val (.int p3), .val (.int p4), .val (.int (p1 &&& (7 : Int32))), .val (.int (0 : Int32)), .val (.int (p1 &&& (7 : Int32))), .val (.ref tl), .val .null, .unset, .unset, .unset, .unset, .unset] [(.int (own_t p4)), (.int (2 : Int32)), (.ref tl)])) rfl rfl (hb hby at_98)
    have V_tl : Arv Z h12 tl k3 .char (4 : Int32) [(.int (nar .char (own_t p2))), (.int (nar .char (own_t p3))), (.int (nar .char (own_t p4))), (.int (0 : Int32))] (.int (0 : Int32)) := Arv.set Ar12 q12 S12 N12 H12 G12 (fits_nar_char _) W12 2 rfl (Nat.le_of_ble_eq_true rfl)
    have Z0 := Nat.le_trans Z0 (Keep.of_wr W12).1
    have K0 := K0.wr W12 (Or.inr sz_tl)
    have N12r := Fr.snoc X12 N9r g_tl
    have go13 : Go p e below T12 (mkF m 99 #[.val (.int p1), .val (.int p2), .val (.int p3), .val (.int p4), .val (.int (p1 &&& (7 : Int32))), .val (.int (0 : Int32)), .val (.int (p1 &&& (7 : Int32))), .val (.ref tl), .val .null, .unset, .unset, .unset, .unset, .unset] []) S0 := fun t kt => go11 t (st12 _ kt)
    rcases own_and7 p1 h4 with hk4 | hk4 | hk4 | hk4
    · have cv14 : (p1 &&& (7 : Int32)) = (0 : Int32) := hk4
      have go14 : Go p e below T12 (mkF m 99 #[.val (.int p1), .val (.int p2), .val (.int p3), .val (.int p4), .val (.int (0 : Int32)), .val (.int (0 : Int32)), .val (.int (0 : Int32)), .val (.ref tl), .val .null, .unset, .unset, .unset, .unset, .unset] []) S0 := by have q := go13; rw [cv14] at q; exact q
      have go15 : Go p e below T12 (mkF m 101 #[.val (.int p1), .val (.int p2), .val (.int p3), .val (.int p4), .val (.int (0 : Int32)), .val (.int (0 : Int32)), .val (.int (0 : Int32)), .val (.ref tl), .val .null, .unset, .unset, .unset, .unset, .unset] [(.int (0 : Int32))]) S0 := by
        intro tt kt
        refine go14 tt ?_
        refine XS.iload X12.here hx rfl (hb hby at_99) rfl ?_
        exact kt
      obtain ⟨T16, h16, k16, X16, e16, E16, A16, st16⟩ := newP X12 hx hZ (wi hw 0 rfl) e12 (g := (mkF m 101 #[.val (.int p1), .val (.int p2), .val (.int p3), .val (.int p4), .val (.int (0 : Int32)), .val (.int (0 : Int32)), .val (.int (0 : Int32)), .val (.ref tl), .val .null, .unset, .unset, .unset, .unset, .unset] [(.int (0 : Int32))])) rfl (hb hby at_101) rfl (by decide) (cap := 0) (by decide) (by decide) (by decide) (by decide)
      obtain ⟨dc, g16⟩ : ∃ z, z = h12.size := ⟨_, rfl⟩
      rw [← g16] at A16 st16
      have g_dc : n0 ≤ dc := Nat.le_trans Z0 (Nat.le_of_eq g16.symm)
      have sz_dc : h0.size ≤ dc := Nat.le_trans K0.1 (Nat.le_of_eq g16.symm)
      have ne_tl_dc : tl ≠ dc := Nat.ne_of_lt (Nat.lt_of_lt_of_le V_tl.lt (Nat.le_of_eq g16.symm))
      have V_tl := V_tl.ext E16
      have Z0 := Nat.le_trans Z0 E16.1
      have K0 := K0.ext E16
      have go17 : Go p e below T16 (mkF m 103 #[.val (.int p1), .val (.int p2), .val (.int p3), .val (.int p4), .val (.int (0 : Int32)), .val (.int (0 : Int32)), .val (.int (0 : Int32)), .val (.ref tl), .val .null, .unset, .unset, .unset, .unset, .unset] [(.ref dc)]) S0 := fun t kt => go15 t (st16 _ kt)
      have V_dc : Arv Z h16 dc k16 .char (0 : Int32) [] (.int (0 : Int32)) := Arv.new A16 (by decide)
      have ne_dc_tl := ne_tl_dc.symm
      have lt_tl := V_tl.lt
      have go18 : Go p e below T16 (mkF m 146 #[.val (.int p1), .val (.int p2), .val (.int p3), .val (.int p4), .val (.int (0 : Int32)), .val (.int (0 : Int32)), .val (.int (0 : Int32)), .val (.ref tl), .val .null, .val (.ref dc), .unset, .unset, .unset, .unset] []) S0 := by
        intro tt kt
        refine go17 tt ?_
        refine XS.astore X16.here hx rfl (hb hby at_103) rfl rfl (l' := #[.val (.int p1), .val (.int p2), .val (.int p3), .val (.int p4), .val (.int (0 : Int32)), .val (.int (0 : Int32)), .val (.int (0 : Int32)), .val (.ref tl), .val .null, .val (.ref dc), .unset, .unset, .unset, .unset]) rfl ?_
        refine XS.iload X16.here hx rfl (hb hby at_105) rfl ?_
        refine XS.ifYes X16.here hx rfl (pc0 := 107) (pc' := 118) rfl (hb hby at_107) rfl ((if0 _ _).trans (flt (by decide)).2.2.2) (by decide) (by decide) ?_
        refine XS.iload X16.here hx rfl (hb hby at_118) rfl ?_
        refine XS.iconst X16.here hx rfl (hb hby at_120) ?_
        refine XS.icmpYes X16.here hx rfl (pc0 := 121) (pc' := 132) rfl (hb hby at_121) rfl (flt (by decide)).2.2.2 (by decide) (by decide) ?_
        refine XS.iload X16.here hx rfl (hb hby at_132) rfl ?_
        refine XS.iconst X16.here hx rfl (hb hby at_134) ?_
        refine XS.icmpYes X16.here hx rfl (pc0 := 135) (pc' := 146) rfl (hb hby at_135) rfl (flt (by decide)).2.2.2 (by decide) (by decide) ?_
        exact kt
      obtain ⟨T19, h19, X19, e19, E19, A19, D19, -, st19⟩ := newO X16 hx hZ hown (wi hw 2 rfl) (wi hw 3 rfl) (wi hw 4 rfl) e16 (g := (mkF m 146 #[.val (.int p1), .val (.int p2), .val (.int p3), .val (.int p4), .val (.int (0 : Int32)), .val (.int (0 : Int32)), .val (.int (0 : Int32)), .val (.ref tl), .val .null, .val (.ref dc), .unset, .unset, .unset, .unset] [])) rfl (hb hby at_146) (by decide) (by decide)
      obtain ⟨a8, g19⟩ : ∃ z, z = h16.size := ⟨_, rfl⟩
      rw [← g19] at A19 D19 st19
      have g_a8 : n0 ≤ a8 := Nat.le_trans Z0 (Nat.le_of_eq g19.symm)
      have sz_a8 : h0.size ≤ a8 := Nat.le_trans K0.1 (Nat.le_of_eq g19.symm)
      have V_tl := V_tl.ext E19
      have V_dc := V_dc.ext E19
      have Z0 := Nat.le_trans Z0 E19.1
      have K0 := K0.ext E19
      have go20 : Go p e below T19 (mkF m 149 #[.val (.int p1), .val (.int p2), .val (.int p3), .val (.int p4), .val (.int (0 : Int32)), .val (.int (0 : Int32)), .val (.int (0 : Int32)), .val (.ref tl), .val .null, .val (.ref dc), .unset, .unset, .unset, .unset] [(.ref a8)]) S0 := fun t kt => go18 t (st19 _ kt)
      have E_a8 := A19
      have F_value_a8 : Fld Z h19 a8 "java/lang/String" "value" "[B" .null := D19 (Or.inr (wi hw 17 rfl)) (ty := (.array .byte)) (by decide)
      have F_coder_a8 : Fld Z h19 a8 "java/lang/String" "coder" "B" (.int (0 : Int32)) := D19 (Or.inr (wi hw 18 rfl)) (ty := .byte) (by decide)
      have ne_tl_a8 : tl ≠ a8 := oR lt_tl (Nat.le_of_eq g19.symm)
      have EK := oE K0
      have hk := Nat.le_trans hk EK.1
      have R0 := R0.trans (CHr.ext EK R0.1)
      have go21 : Go p e below T19 (mkF m 152 #[.val (.int p1), .val (.int p2), .val (.int p3), .val (.int p4), .val (.int (0 : Int32)), .val (.int (0 : Int32)), .val (.int (0 : Int32)), .val (.ref tl), .val .null, .val (.ref dc), .unset, .unset, .unset, .unset] [(.ref dc), (.ref a8), (.ref a8)]) S0 := by
        intro tt kt
        refine go20 tt ?_
        refine XS.dup X19.here hx rfl (hb hby at_149) rfl rfl ?_
        refine XS.aload X19.here hx rfl (hb hby at_150) rfl rfl ?_
        exact kt
      obtain ⟨_, _, ⟨T22, L22, k22, n22⟩, -, X22, hS22a, hg22, ⟨Lc22, hQ22, l22, y22, z22, CR22⟩, st22⟩ := X19.specialBackS hx (y := y3_) rfl hown (mvT hZ (wi hw 5 rfl)) (mvT hZ (wi hw 6 rfl)) (mvT hZ (wi hw 7 rfl)) (by decide) (backOfSH (W := 1) (rm_new1 l Z a0 hw [] a8 dc k16 h19 n0 Z0 E_a8 F_value_a8 F_coder_a8 g_a8 hEL V_dc) hZ (wi hw 7 rfl) (wi hw 4 rfl) (by decide) (by decide) hEL R0.1) (g := (mkF m 152 #[.val (.int p1), .val (.int p2), .val (.int p3), .val (.int p4), .val (.int (0 : Int32)), .val (.int (0 : Int32)), .val (.int (0 : Int32)), .val (.ref tl), .val .null, .val (.ref dc), .unset, .unset, .unset, .unset] [(.ref dc), (.ref a8), (.ref a8)])) rfl (by rw [hml]; rfl) (Steps.refl _) (a := a8) (argsL := [(.ref dc)]) (rest := [(.ref a8)]) (lenOf pd26_ rfl) rfl (by show 2 * 0 + _ ≤ _; exact Nat.le_of_eq rfl) (hb hby at_152) (fun _ _ => ⟨rfl, e19, (by decide : 3 + 2 ≤ _), (by decide : 8 + 4 ≤ _)⟩)
      dsimp only [Pt.U, Pt.locs, Pt.cells, Pt.slots] at X22 hS22a hg22 l22 y22 z22 CR22 st22 hQ22
      subst l22 y22 z22
      obtain ⟨rfl, N22q, K22, B_8⟩ := hQ22
      have hS22 : s.Since T22.vm T22.heap.size := foldS hS (by rw [e19]; exact hk) hS22a hg22
      have hk22 : T22.heap.size ≤ T22.heap.size := Nat.le_refl _
      have hZ22 : Z.Warmed39 (s.setVm T22.vm).vm := State.Warmed39.trans (t := s.setVm s.vm) hZ hS22a.1
      have hown22 : (s.setVm T22.vm).vm.findClass "com/example/ceresio/ceresio/StateFormatMalformedPinLaw" = some m.cls := by rw [show (s.setVm T22.vm).vm = T22.vm from rfl, hS22a.1.alike.findClass]; exact hown
      have X22 : Stand p l e _ (s.setVm T22.vm) m _ below meth c T22 _ _ _ := X22
      have V_tl := V_tl.keep K22 (ninS ne_tl_a8 nin0)
      have K0 := K0.trans K22 (allS (Or.inr sz_a8) all0)
      have Z0 := Nat.le_trans Z0 K22.1
      have R0 := R0.trans CR22
      have N22 := Fr.app N12r N22q
      obtain ⟨kk22, hkk22⟩ : ∃ z, z = T22.heap.size := ⟨_, rfl⟩
      rw [← hkk22] at hS22
      have hk22 : kk22 ≤ T22.heap.size := Nat.le_of_eq hkk22
      have go23 : Go p e below T22 (mkF m 155 #[.val (.int p1), .val (.int p2), .val (.int p3), .val (.int p4), .val (.int (0 : Int32)), .val (.int (0 : Int32)), .val (.int (0 : Int32)), .val (.ref tl), .val .null, .val (.ref dc), .unset, .unset, .unset, .unset] [(.ref a8)]) S0 := fun t kt => go21 t (st22.trans kt)
      have go24 : Go p e below T22 (mkF m 157 #[.val (.int p1), .val (.int p2), .val (.int p3), .val (.int p4), .val (.int (0 : Int32)), .val (.int (0 : Int32)), .val (.int (0 : Int32)), .val (.ref tl), .val (.ref a8), .val (.ref dc), .unset, .unset, .unset, .unset] []) S0 := by
        intro tt kt
        refine go23 tt ?_
        refine XS.astore X22.here hx rfl (hb hby at_155) rfl rfl (l' := #[.val (.int p1), .val (.int p2), .val (.int p3), .val (.int p4), .val (.int (0 : Int32)), .val (.int (0 : Int32)), .val (.int (0 : Int32)), .val (.ref tl), .val (.ref a8), .val (.ref dc), .unset, .unset, .unset, .unset]) rfl ?_
        exact kt
      have EK := oE K0
      have O0 : OldE Z T22.heap := O0.ext EK
      obtain ⟨pp, T25, h25, k25, b25, c25, X25, e25, E25, hS25, hk25, hZ25, hown25, EX25, CO25, VA25, AR25, -, -, CR25, LI25, NE25, st25⟩ := ldcCH X22 hx hZ22 hown22 (wi hw 23 rfl) hstr rfl hS22 hk22 hEL (by simp [own_EL]) R0.1 (vs := ((([(109 : Int32), (97 : Int32), (108 : Int32), (102 : Int32), (111 : Int32), (114 : Int32), (109 : Int32), (101 : Int32), (100 : Int32), (32 : Int32), (115 : Int32), (116 : Int32), (97 : Int32), (116 : Int32), (101 : Int32), (58 : Int32), (32 : Int32)] : List Int32).map (fun c => c.toInt8.toInt32)).map Value.int)) (z := (17 : Int32)) (own_text_pp : _ ∧ _) (by decide) rfl (g := (mkF m 157 #[.val (.int p1), .val (.int p2), .val (.int p3), .val (.int p4), .val (.int (0 : Int32)), .val (.int (0 : Int32)), .val (.int (0 : Int32)), .val (.ref tl), .val (.ref a8), .val (.ref dc), .unset, .unset, .unset, .unset] [])) rfl (hb hby at_157) (n := 68) (by decide +kernel) (by decide) (by decide) (by decide)
      have V_tl := V_tl.ext E25
      have B_8 := B_8.ext E25
      have O0 := O0.ext E25
      have Z0 := Nat.le_trans Z0 E25.1
      have R0 := R0.trans CR25
      have go26 : Go p e below T25 (mkF m 159 #[.val (.int p1), .val (.int p2), .val (.int p3), .val (.int p4), .val (.int (0 : Int32)), .val (.int (0 : Int32)), .val (.int (0 : Int32)), .val (.ref tl), .val (.ref a8), .val (.ref dc), .unset, .unset, .unset, .unset] [(.ref pp)]) S0 := fun t kt => go24 t (st25 _ kt)
      have L_pp : Str Z h25 pp [(109 : Int32), (97 : Int32), (108 : Int32), (102 : Int32), (111 : Int32), (114 : Int32), (109 : Int32), (101 : Int32), (100 : Int32), (32 : Int32), (115 : Int32), (116 : Int32), (97 : Int32), (116 : Int32), (101 : Int32), (58 : Int32), (32 : Int32)] := ⟨b25, c25, EX25, CO25, VA25, AR25, by decide, by decide⟩
      have B_pp : Bs Z h25 pp (0 : Int32) own_PB := ⟨b25, c25, EX25, CO25, VA25, by rw [own_PBl]; exact oA AR25 own_PBe⟩
      have go27 : Go p e below T25 (mkF m 161 #[.val (.int p1), .val (.int p2), .val (.int p3), .val (.int p4), .val (.int (0 : Int32)), .val (.int (0 : Int32)), .val (.int (0 : Int32)), .val (.ref tl), .val (.ref a8), .val (.ref pp), .unset, .unset, .unset, .unset] []) S0 := by
        intro tt kt
        refine go26 tt ?_
        refine XS.astore X25.here hx rfl (hb hby at_159) rfl rfl (l' := #[.val (.int p1), .val (.int p2), .val (.int p3), .val (.int p4), .val (.int (0 : Int32)), .val (.int (0 : Int32)), .val (.int (0 : Int32)), .val (.ref tl), .val (.ref a8), .val (.ref pp), .unset, .unset, .unset, .unset]) rfl ?_
        exact kt
      obtain ⟨T28, h28, L28, ex, kx, X28, e28, N28, E28, V_ex, st28⟩ := own_mid (n := 0) (z0 := .val (.int p1)) (z1 := .val (.int p2)) (z2 := .val (.int p3)) (z3 := .val (.int p4)) (z4 := .val (.int (0 : Int32))) (z5 := .val (.int (0 : Int32))) (z8 := .val (.ref a8)) hw X25 hx hZ25 hown25 hml e25 Z0 N22 (by decide) (by decide) O0 S_CS P5 S_SI rf hn0 hby B_pp V_tl (by omega)
      have go29 : Go p e below T28 (mkF m 421 #[.val (.int p1), .val (.int p2), .val (.int p3), .val (.int p4), .val (.int (0 : Int32)), .val (.int (0 : Int32)), .val (.int (Int32.ofNat 0)), .val (.ref tl), .val (.ref a8), .val (.ref pp), .val (.ref ex), .unset, .unset, .unset] []) S0 := fun t kt => go27 t (st28 t kt)
      have O0 : OldE Z h28 := O0.ext E28
      have B_pp := B_pp.ext E28
      have hk25 := Nat.le_trans hk25 E28.1
      have Z0 := Nat.le_trans Z0 E28.1
      have R0 := R0.trans (CHr.ext E28 R0.1)
      have B_8 := B_8.ext E28
      obtain ⟨s2, o2, st2, r1, r2, v2, L2, r3, ⟨rfl, r4⟩, r5⟩ := own_tailR (cs := []) (z0 := .val (.int p1)) (z1 := .val (.int p2)) (z2 := .val (.int p3)) (z3 := .val (.int p4)) (z4 := .val (.int (0 : Int32))) (z5 := .val (.int (0 : Int32))) (z6 := .val (.int (Int32.ofNat 0))) (z7 := .val (.ref tl)) hw hEL X28 hx hZ25 hown25 hby hml Bd.returns Bd.notSynchronized e28 hS25 hk25 R0 Z0 N28 O0 hn0 S_CS P5 S_AD S_HI S_LO S_SI rf S_UN S_SP hl hTK hBelow (by decide) (by decide) B_pp V_ex (own_chcat (fun c hc => by simp at hc)) B_8 (Nat.le_of_ble_eq_true rfl)
      exact ⟨s2, o2, go29 _ st2, r1, r2, _, L2, r3, ⟨rfl, r4⟩, r5⟩
    · have cv30 : (p1 &&& (7 : Int32)) = (1 : Int32) := hk4
      have go30 : Go p e below T12 (mkF m 99 #[.val (.int p1), .val (.int p2), .val (.int p3), .val (.int p4), .val (.int (1 : Int32)), .val (.int (0 : Int32)), .val (.int (1 : Int32)), .val (.ref tl), .val .null, .unset, .unset, .unset, .unset, .unset] []) S0 := by have q := go13; rw [cv30] at q; exact q
      have go31 : Go p e below T12 (mkF m 101 #[.val (.int p1), .val (.int p2), .val (.int p3), .val (.int p4), .val (.int (1 : Int32)), .val (.int (0 : Int32)), .val (.int (1 : Int32)), .val (.ref tl), .val .null, .unset, .unset, .unset, .unset, .unset] [(.int (1 : Int32))]) S0 := by
        intro tt kt
        refine go30 tt ?_
        refine XS.iload X12.here hx rfl (hb hby at_99) rfl ?_
        exact kt
      obtain ⟨T32, h32, k32, X32, e32, E32, A32, st32⟩ := newP X12 hx hZ (wi hw 0 rfl) e12 (g := (mkF m 101 #[.val (.int p1), .val (.int p2), .val (.int p3), .val (.int p4), .val (.int (1 : Int32)), .val (.int (0 : Int32)), .val (.int (1 : Int32)), .val (.ref tl), .val .null, .unset, .unset, .unset, .unset, .unset] [(.int (1 : Int32))])) rfl (hb hby at_101) rfl (by decide) (cap := 1) (by decide) (by decide) (by decide) (by decide)
      obtain ⟨dc, g32⟩ : ∃ z, z = h12.size := ⟨_, rfl⟩
      rw [← g32] at A32 st32
      have g_dc : n0 ≤ dc := Nat.le_trans Z0 (Nat.le_of_eq g32.symm)
      have sz_dc : h0.size ≤ dc := Nat.le_trans K0.1 (Nat.le_of_eq g32.symm)
      have ne_tl_dc : tl ≠ dc := Nat.ne_of_lt (Nat.lt_of_lt_of_le V_tl.lt (Nat.le_of_eq g32.symm))
      have V_tl := V_tl.ext E32
      have Z0 := Nat.le_trans Z0 E32.1
      have K0 := K0.ext E32
      have go33 : Go p e below T32 (mkF m 103 #[.val (.int p1), .val (.int p2), .val (.int p3), .val (.int p4), .val (.int (1 : Int32)), .val (.int (0 : Int32)), .val (.int (1 : Int32)), .val (.ref tl), .val .null, .unset, .unset, .unset, .unset, .unset] [(.ref dc)]) S0 := fun t kt => go31 t (st32 _ kt)
      have V_dc : Arv Z h32 dc k32 .char (1 : Int32) [(.int (0 : Int32))] (.int (0 : Int32)) := (Arv.new A32 (by decide)).pad (pad_rep [] (.int (0 : Int32)) 1)
      have ne_dc_tl := ne_tl_dc.symm
      have go34 : Go p e below T32 (mkF m 116 #[.val (.int p1), .val (.int p2), .val (.int p3), .val (.int p4), .val (.int (1 : Int32)), .val (.int (0 : Int32)), .val (.int (1 : Int32)), .val (.ref tl), .val .null, .val (.ref dc), .unset, .unset, .unset, .unset] [(.int (0 : Int32)), (.ref tl), (.int (0 : Int32)), (.ref dc)]) S0 := by
        intro tt kt
        refine go33 tt ?_
        refine XS.astore X32.here hx rfl (hb hby at_103) rfl rfl (l' := #[.val (.int p1), .val (.int p2), .val (.int p3), .val (.int p4), .val (.int (1 : Int32)), .val (.int (0 : Int32)), .val (.int (1 : Int32)), .val (.ref tl), .val .null, .val (.ref dc), .unset, .unset, .unset, .unset]) rfl ?_
        refine XS.iload X32.here hx rfl (hb hby at_105) rfl ?_
        refine XS.ifNo X32.here hx rfl (hb hby at_107) rfl ((if0 _ _).trans (tlt (by decide)).2.2.2) ?_
        refine XS.aload X32.here hx rfl (hb hby at_110) rfl rfl ?_
        refine XS.iconst X32.here hx rfl (hb hby at_112) ?_
        refine XS.aload X32.here hx rfl (hb hby at_113) rfl rfl ?_
        refine XS.iconst X32.here hx rfl (hb hby at_115) ?_
        exact kt
      obtain ⟨cl35, Ar35, q35, S35, N35, H35, G35⟩ := id V_tl
      have go36 : Go p e below T32 (mkF m 117 #[.val (.int p1), .val (.int p2), .val (.int p3), .val (.int p4), .val (.int (1 : Int32)), .val (.int (0 : Int32)), .val (.int (1 : Int32)), .val (.ref tl), .val .null, .val (.ref dc), .unset, .unset, .unset, .unset] [(.int (nar .char (own_t p2))), (.int (0 : Int32)), (.ref dc)]) S0 := by
        intro tt kt
        refine go34 tt ?_
        refine X32.caload hx (j := (0 : Int32)) (v := (.int (nar .char (own_t p2)))) (by rw [e32]; exact Ar35.1) (State.isArrayOf_alike hZ.alike Ar35.2.1) Ar35.2.2 (inb_of S35 ⟨by decide, by decide⟩) (H35 0 (by rw [S35]; decide)) (g := (mkF m 116 #[.val (.int p1), .val (.int p2), .val (.int p3), .val (.int p4), .val (.int (1 : Int32)), .val (.int (0 : Int32)), .val (.int (1 : Int32)), .val (.ref tl), .val .null, .val (.ref dc), .unset, .unset, .unset, .unset] [(.int (0 : Int32)), (.ref tl), (.int (0 : Int32)), (.ref dc)])) rfl rfl (hb hby at_116) _ ?_
        exact kt
      obtain ⟨cl37, Ar37, q37, S37, N37, H37, G37⟩ := V_dc
      obtain ⟨T37, h37, X37, e37, W37, st37⟩ := stC X32 hx hZ e32 Ar37 (j := (0 : Int32)) (inb_of S37 ⟨by decide, by decide⟩) (g := (mkF m 117 #[.val (.int p1), .val (.int p2), .val (.int p3), .val (.int p4), .val (.int (1 : Int32)), .val (.int (0 : Int32)), .val (.int (1 : Int32)), .val (.ref tl), .val .null, .val (.ref dc), .unset, .unset, .unset, .unset] [(.int (nar .char (own_t p2))), (.int (0 : Int32)), (.ref dc)])) rfl rfl (hb hby at_117)
      have V_tl := V_tl.other W37 ne_tl_dc
      have V_dc : Arv Z h37 dc k32 .char (1 : Int32) [(.int (nar .char (nar .char (own_t p2))))] (.int (0 : Int32)) := Arv.set Ar37 q37 S37 N37 H37 G37 (fits_nar_char _) W37 0 rfl (Nat.le_of_ble_eq_true rfl)
      have Z0 := Nat.le_trans Z0 (Keep.of_wr W37).1
      have K0 := K0.wr W37 (Or.inr sz_dc)
      have N37r := Fr.snoc X37 N12r g_dc
      have go38 : Go p e below T37 (mkF m 118 #[.val (.int p1), .val (.int p2), .val (.int p3), .val (.int p4), .val (.int (1 : Int32)), .val (.int (0 : Int32)), .val (.int (1 : Int32)), .val (.ref tl), .val .null, .val (.ref dc), .unset, .unset, .unset, .unset] []) S0 := fun t kt => go36 t (st37 _ kt)
      have lt_tl := V_tl.lt
      have go39 : Go p e below T37 (mkF m 146 #[.val (.int p1), .val (.int p2), .val (.int p3), .val (.int p4), .val (.int (1 : Int32)), .val (.int (0 : Int32)), .val (.int (1 : Int32)), .val (.ref tl), .val .null, .val (.ref dc), .unset, .unset, .unset, .unset] []) S0 := by
        intro tt kt
        refine go38 tt ?_
        refine XS.iload X37.here hx rfl (hb hby at_118) rfl ?_
        refine XS.iconst X37.here hx rfl (hb hby at_120) ?_
        refine XS.icmpYes X37.here hx rfl (pc0 := 121) (pc' := 132) rfl (hb hby at_121) rfl (flt (by decide)).2.2.2 (by decide) (by decide) ?_
        refine XS.iload X37.here hx rfl (hb hby at_132) rfl ?_
        refine XS.iconst X37.here hx rfl (hb hby at_134) ?_
        refine XS.icmpYes X37.here hx rfl (pc0 := 135) (pc' := 146) rfl (hb hby at_135) rfl (flt (by decide)).2.2.2 (by decide) (by decide) ?_
        exact kt
      obtain ⟨T40, h40, X40, e40, E40, A40, D40, -, st40⟩ := newO X37 hx hZ hown (wi hw 2 rfl) (wi hw 3 rfl) (wi hw 4 rfl) e37 (g := (mkF m 146 #[.val (.int p1), .val (.int p2), .val (.int p3), .val (.int p4), .val (.int (1 : Int32)), .val (.int (0 : Int32)), .val (.int (1 : Int32)), .val (.ref tl), .val .null, .val (.ref dc), .unset, .unset, .unset, .unset] [])) rfl (hb hby at_146) (by decide) (by decide)
      obtain ⟨a8, g40⟩ : ∃ z, z = h37.size := ⟨_, rfl⟩
      rw [← g40] at A40 D40 st40
      have g_a8 : n0 ≤ a8 := Nat.le_trans Z0 (Nat.le_of_eq g40.symm)
      have sz_a8 : h0.size ≤ a8 := Nat.le_trans K0.1 (Nat.le_of_eq g40.symm)
      have V_tl := V_tl.ext E40
      have V_dc := V_dc.ext E40
      have Z0 := Nat.le_trans Z0 E40.1
      have K0 := K0.ext E40
      have go41 : Go p e below T40 (mkF m 149 #[.val (.int p1), .val (.int p2), .val (.int p3), .val (.int p4), .val (.int (1 : Int32)), .val (.int (0 : Int32)), .val (.int (1 : Int32)), .val (.ref tl), .val .null, .val (.ref dc), .unset, .unset, .unset, .unset] [(.ref a8)]) S0 := fun t kt => go39 t (st40 _ kt)
      have E_a8 := A40
      have F_value_a8 : Fld Z h40 a8 "java/lang/String" "value" "[B" .null := D40 (Or.inr (wi hw 17 rfl)) (ty := (.array .byte)) (by decide)
      have F_coder_a8 : Fld Z h40 a8 "java/lang/String" "coder" "B" (.int (0 : Int32)) := D40 (Or.inr (wi hw 18 rfl)) (ty := .byte) (by decide)
      have ne_tl_a8 : tl ≠ a8 := oR lt_tl (Nat.le_of_eq g40.symm)
      have go42 : Go p e below T40 (mkF m 152 #[.val (.int p1), .val (.int p2), .val (.int p3), .val (.int p4), .val (.int (1 : Int32)), .val (.int (0 : Int32)), .val (.int (1 : Int32)), .val (.ref tl), .val .null, .val (.ref dc), .unset, .unset, .unset, .unset] [(.ref dc), (.ref a8), (.ref a8)]) S0 := by
        intro tt kt
        refine go41 tt ?_
        refine XS.dup X40.here hx rfl (hb hby at_149) rfl rfl ?_
        refine XS.aload X40.here hx rfl (hb hby at_150) rfl rfl ?_
        exact kt
      obtain ⟨_, _, ⟨T43, L43, k43, n43⟩, -, X43, ⟨Lc43, hQ43, l43, y43, z43⟩, st43⟩ := X40.specialBack hx (y := y3_) rfl hown (mvT hZ (wi hw 5 rfl)) (mvT hZ (wi hw 6 rfl)) (mvT hZ (wi hw 7 rfl)) (by decide) (backOf (W := 1) (rm_si1 l Z a0 hw [] a8 dc 1 k32 [nar .char (nar .char (own_t p2))] zc h40 n0 Z0 (oO O0 K0 hn0 all0) hn0 S_AD S_HI S_LO S_CS P5 E_a8 F_value_a8 F_coder_a8 g_a8 rfl (by decide) (by decide) V_dc (fun c hc => by simp only [List.mem_cons, List.not_mem_nil, or_false] at hc; rcases hc with rfl <;> exact own_narC _)) hZ (wi hw 7 rfl) (wi hw 4 rfl) (by decide) (by decide)) (g := (mkF m 152 #[.val (.int p1), .val (.int p2), .val (.int p3), .val (.int p4), .val (.int (1 : Int32)), .val (.int (0 : Int32)), .val (.int (1 : Int32)), .val (.ref tl), .val .null, .val (.ref dc), .unset, .unset, .unset, .unset] [(.ref dc), (.ref a8), (.ref a8)])) rfl (by rw [hml]; rfl) (Steps.refl _) (a := a8) (argsL := [(.ref dc)]) (rest := [(.ref a8)]) (lenOf pd26_ rfl) rfl (by show 2 * 0 + _ ≤ _; exact Nat.le_of_eq rfl) (hb hby at_152) (fun _ _ => ⟨rfl, e40, (by decide : 3 + 2 ≤ _), (by decide : 9 + 89 ≤ _)⟩)
      dsimp only [Pt.U, Pt.locs, Pt.cells, Pt.slots] at X43 l43 y43 z43 st43 hQ43
      subst l43 y43 z43
      obtain ⟨rfl, N43q, K43, B_8⟩ := hQ43
      have V_tl := V_tl.keep K43 (ninS ne_tl_a8 nin0)
      have K0 := K0.trans K43 (allS (Or.inr sz_a8) all0)
      have Z0 := Nat.le_trans Z0 K43.1
      have N43 := Fr.app N37r N43q
      have go44 : Go p e below T43 (mkF m 155 #[.val (.int p1), .val (.int p2), .val (.int p3), .val (.int p4), .val (.int (1 : Int32)), .val (.int (0 : Int32)), .val (.int (1 : Int32)), .val (.ref tl), .val .null, .val (.ref dc), .unset, .unset, .unset, .unset] [(.ref a8)]) S0 := fun t kt => go42 t (st43.trans kt)
      have go45 : Go p e below T43 (mkF m 157 #[.val (.int p1), .val (.int p2), .val (.int p3), .val (.int p4), .val (.int (1 : Int32)), .val (.int (0 : Int32)), .val (.int (1 : Int32)), .val (.ref tl), .val (.ref a8), .val (.ref dc), .unset, .unset, .unset, .unset] []) S0 := by
        intro tt kt
        refine go44 tt ?_
        refine XS.astore X43.here hx rfl (hb hby at_155) rfl rfl (l' := #[.val (.int p1), .val (.int p2), .val (.int p3), .val (.int p4), .val (.int (1 : Int32)), .val (.int (0 : Int32)), .val (.int (1 : Int32)), .val (.ref tl), .val (.ref a8), .val (.ref dc), .unset, .unset, .unset, .unset]) rfl ?_
        exact kt
      have EK := oE K0
      have O0 : OldE Z T43.heap := O0.ext EK
      have hk := Nat.le_trans hk EK.1
      have R0 := R0.trans (CHr.ext EK R0.1)
      obtain ⟨pp, T46, h46, k46, b46, c46, X46, e46, E46, hS46, hk46, hZ46, hown46, EX46, CO46, VA46, AR46, -, -, CR46, LI46, NE46, st46⟩ := ldcCH X43 hx hZ hown (wi hw 23 rfl) hstr rfl hS hk hEL (by simp [own_EL]) R0.1 (vs := ((([(109 : Int32), (97 : Int32), (108 : Int32), (102 : Int32), (111 : Int32), (114 : Int32), (109 : Int32), (101 : Int32), (100 : Int32), (32 : Int32), (115 : Int32), (116 : Int32), (97 : Int32), (116 : Int32), (101 : Int32), (58 : Int32), (32 : Int32)] : List Int32).map (fun c => c.toInt8.toInt32)).map Value.int)) (z := (17 : Int32)) (own_text_pp : _ ∧ _) (by decide) rfl (g := (mkF m 157 #[.val (.int p1), .val (.int p2), .val (.int p3), .val (.int p4), .val (.int (1 : Int32)), .val (.int (0 : Int32)), .val (.int (1 : Int32)), .val (.ref tl), .val (.ref a8), .val (.ref dc), .unset, .unset, .unset, .unset] [])) rfl (hb hby at_157) (n := 68) (by decide +kernel) (by decide) (by decide) (by decide)
      have V_tl := V_tl.ext E46
      have B_8 := B_8.ext E46
      have O0 := O0.ext E46
      have Z0 := Nat.le_trans Z0 E46.1
      have R0 := R0.trans CR46
      have go47 : Go p e below T46 (mkF m 159 #[.val (.int p1), .val (.int p2), .val (.int p3), .val (.int p4), .val (.int (1 : Int32)), .val (.int (0 : Int32)), .val (.int (1 : Int32)), .val (.ref tl), .val (.ref a8), .val (.ref dc), .unset, .unset, .unset, .unset] [(.ref pp)]) S0 := fun t kt => go45 t (st46 _ kt)
      have L_pp : Str Z h46 pp [(109 : Int32), (97 : Int32), (108 : Int32), (102 : Int32), (111 : Int32), (114 : Int32), (109 : Int32), (101 : Int32), (100 : Int32), (32 : Int32), (115 : Int32), (116 : Int32), (97 : Int32), (116 : Int32), (101 : Int32), (58 : Int32), (32 : Int32)] := ⟨b46, c46, EX46, CO46, VA46, AR46, by decide, by decide⟩
      have B_pp : Bs Z h46 pp (0 : Int32) own_PB := ⟨b46, c46, EX46, CO46, VA46, by rw [own_PBl]; exact oA AR46 own_PBe⟩
      have go48 : Go p e below T46 (mkF m 161 #[.val (.int p1), .val (.int p2), .val (.int p3), .val (.int p4), .val (.int (1 : Int32)), .val (.int (0 : Int32)), .val (.int (1 : Int32)), .val (.ref tl), .val (.ref a8), .val (.ref pp), .unset, .unset, .unset, .unset] []) S0 := by
        intro tt kt
        refine go47 tt ?_
        refine XS.astore X46.here hx rfl (hb hby at_159) rfl rfl (l' := #[.val (.int p1), .val (.int p2), .val (.int p3), .val (.int p4), .val (.int (1 : Int32)), .val (.int (0 : Int32)), .val (.int (1 : Int32)), .val (.ref tl), .val (.ref a8), .val (.ref pp), .unset, .unset, .unset, .unset]) rfl ?_
        exact kt
      obtain ⟨T49, h49, L49, ex, kx, X49, e49, N49, E49, V_ex, st49⟩ := own_mid (n := 1) (z0 := .val (.int p1)) (z1 := .val (.int p2)) (z2 := .val (.int p3)) (z3 := .val (.int p4)) (z4 := .val (.int (1 : Int32))) (z5 := .val (.int (0 : Int32))) (z8 := .val (.ref a8)) hw X46 hx hZ46 hown46 hml e46 Z0 N43 (by decide) (by decide) O0 S_CS P5 S_SI rf hn0 hby B_pp V_tl (by omega)
      have go50 : Go p e below T49 (mkF m 421 #[.val (.int p1), .val (.int p2), .val (.int p3), .val (.int p4), .val (.int (1 : Int32)), .val (.int (0 : Int32)), .val (.int (Int32.ofNat 1)), .val (.ref tl), .val (.ref a8), .val (.ref pp), .val (.ref ex), .unset, .unset, .unset] []) S0 := fun t kt => go48 t (st49 t kt)
      have O0 : OldE Z h49 := O0.ext E49
      have B_pp := B_pp.ext E49
      have hk46 := Nat.le_trans hk46 E49.1
      have Z0 := Nat.le_trans Z0 E49.1
      have R0 := R0.trans (CHr.ext E49 R0.1)
      have B_8 := B_8.ext E49
      obtain ⟨s2, o2, st2, r1, r2, v2, L2, r3, ⟨rfl, r4⟩, r5⟩ := own_tailR (cs := [nar .char (nar .char (own_t p2))]) (z0 := .val (.int p1)) (z1 := .val (.int p2)) (z2 := .val (.int p3)) (z3 := .val (.int p4)) (z4 := .val (.int (1 : Int32))) (z5 := .val (.int (0 : Int32))) (z6 := .val (.int (Int32.ofNat 1))) (z7 := .val (.ref tl)) hw hEL X49 hx hZ46 hown46 hby hml Bd.returns Bd.notSynchronized e49 hS46 hk46 R0 Z0 N49 O0 hn0 S_CS P5 S_AD S_HI S_LO S_SI rf S_UN S_SP hl hTK hBelow (by decide) (by decide) B_pp V_ex (own_chcat (fun c hc => by simp only [List.mem_cons, List.not_mem_nil, or_false] at hc; rcases hc with rfl <;> exact ⟨_, rfl⟩)) B_8 (Nat.le_of_ble_eq_true rfl)
      exact ⟨s2, o2, go50 _ st2, r1, r2, _, L2, r3, ⟨rfl, r4⟩, r5⟩
    · have cv51 : (p1 &&& (7 : Int32)) = (2 : Int32) := hk4
      have go51 : Go p e below T12 (mkF m 99 #[.val (.int p1), .val (.int p2), .val (.int p3), .val (.int p4), .val (.int (2 : Int32)), .val (.int (0 : Int32)), .val (.int (2 : Int32)), .val (.ref tl), .val .null, .unset, .unset, .unset, .unset, .unset] []) S0 := by have q := go13; rw [cv51] at q; exact q
      have go52 : Go p e below T12 (mkF m 101 #[.val (.int p1), .val (.int p2), .val (.int p3), .val (.int p4), .val (.int (2 : Int32)), .val (.int (0 : Int32)), .val (.int (2 : Int32)), .val (.ref tl), .val .null, .unset, .unset, .unset, .unset, .unset] [(.int (2 : Int32))]) S0 := by
        intro tt kt
        refine go51 tt ?_
        refine XS.iload X12.here hx rfl (hb hby at_99) rfl ?_
        exact kt
      obtain ⟨T53, h53, k53, X53, e53, E53, A53, st53⟩ := newP X12 hx hZ (wi hw 0 rfl) e12 (g := (mkF m 101 #[.val (.int p1), .val (.int p2), .val (.int p3), .val (.int p4), .val (.int (2 : Int32)), .val (.int (0 : Int32)), .val (.int (2 : Int32)), .val (.ref tl), .val .null, .unset, .unset, .unset, .unset, .unset] [(.int (2 : Int32))])) rfl (hb hby at_101) rfl (by decide) (cap := 2) (by decide) (by decide) (by decide) (by decide)
      obtain ⟨dc, g53⟩ : ∃ z, z = h12.size := ⟨_, rfl⟩
      rw [← g53] at A53 st53
      have g_dc : n0 ≤ dc := Nat.le_trans Z0 (Nat.le_of_eq g53.symm)
      have sz_dc : h0.size ≤ dc := Nat.le_trans K0.1 (Nat.le_of_eq g53.symm)
      have ne_tl_dc : tl ≠ dc := Nat.ne_of_lt (Nat.lt_of_lt_of_le V_tl.lt (Nat.le_of_eq g53.symm))
      have V_tl := V_tl.ext E53
      have Z0 := Nat.le_trans Z0 E53.1
      have K0 := K0.ext E53
      have go54 : Go p e below T53 (mkF m 103 #[.val (.int p1), .val (.int p2), .val (.int p3), .val (.int p4), .val (.int (2 : Int32)), .val (.int (0 : Int32)), .val (.int (2 : Int32)), .val (.ref tl), .val .null, .unset, .unset, .unset, .unset, .unset] [(.ref dc)]) S0 := fun t kt => go52 t (st53 _ kt)
      have V_dc : Arv Z h53 dc k53 .char (2 : Int32) [(.int (0 : Int32)), (.int (0 : Int32))] (.int (0 : Int32)) := (Arv.new A53 (by decide)).pad (pad_rep [] (.int (0 : Int32)) 2)
      have ne_dc_tl := ne_tl_dc.symm
      have go55 : Go p e below T53 (mkF m 116 #[.val (.int p1), .val (.int p2), .val (.int p3), .val (.int p4), .val (.int (2 : Int32)), .val (.int (0 : Int32)), .val (.int (2 : Int32)), .val (.ref tl), .val .null, .val (.ref dc), .unset, .unset, .unset, .unset] [(.int (0 : Int32)), (.ref tl), (.int (0 : Int32)), (.ref dc)]) S0 := by
        intro tt kt
        refine go54 tt ?_
        refine XS.astore X53.here hx rfl (hb hby at_103) rfl rfl (l' := #[.val (.int p1), .val (.int p2), .val (.int p3), .val (.int p4), .val (.int (2 : Int32)), .val (.int (0 : Int32)), .val (.int (2 : Int32)), .val (.ref tl), .val .null, .val (.ref dc), .unset, .unset, .unset, .unset]) rfl ?_
        refine XS.iload X53.here hx rfl (hb hby at_105) rfl ?_
        refine XS.ifNo X53.here hx rfl (hb hby at_107) rfl ((if0 _ _).trans (tlt (by decide)).2.2.2) ?_
        refine XS.aload X53.here hx rfl (hb hby at_110) rfl rfl ?_
        refine XS.iconst X53.here hx rfl (hb hby at_112) ?_
        refine XS.aload X53.here hx rfl (hb hby at_113) rfl rfl ?_
        refine XS.iconst X53.here hx rfl (hb hby at_115) ?_
        exact kt
      obtain ⟨cl56, Ar56, q56, S56, N56, H56, G56⟩ := id V_tl
      have go57 : Go p e below T53 (mkF m 117 #[.val (.int p1), .val (.int p2), .val (.int p3), .val (.int p4), .val (.int (2 : Int32)), .val (.int (0 : Int32)), .val (.int (2 : Int32)), .val (.ref tl), .val .null, .val (.ref dc), .unset, .unset, .unset, .unset] [(.int (nar .char (own_t p2))), (.int (0 : Int32)), (.ref dc)]) S0 := by
        intro tt kt
        refine go55 tt ?_
        refine X53.caload hx (j := (0 : Int32)) (v := (.int (nar .char (own_t p2)))) (by rw [e53]; exact Ar56.1) (State.isArrayOf_alike hZ.alike Ar56.2.1) Ar56.2.2 (inb_of S56 ⟨by decide, by decide⟩) (H56 0 (by rw [S56]; decide)) (g := (mkF m 116 #[.val (.int p1), .val (.int p2), .val (.int p3), .val (.int p4), .val (.int (2 : Int32)), .val (.int (0 : Int32)), .val (.int (2 : Int32)), .val (.ref tl), .val .null, .val (.ref dc), .unset, .unset, .unset, .unset] [(.int (0 : Int32)), (.ref tl), (.int (0 : Int32)), (.ref dc)])) rfl rfl (hb hby at_116) _ ?_
        exact kt
      obtain ⟨cl58, Ar58, q58, S58, N58, H58, G58⟩ := V_dc
      obtain ⟨T58, h58, X58, e58, W58, st58⟩ := stC X53 hx hZ e53 Ar58 (j := (0 : Int32)) (inb_of S58 ⟨by decide, by decide⟩) (g := (mkF m 117 #[.val (.int p1), .val (.int p2), .val (.int p3), .val (.int p4), .val (.int (2 : Int32)), .val (.int (0 : Int32)), .val (.int (2 : Int32)), .val (.ref tl), .val .null, .val (.ref dc), .unset, .unset, .unset, .unset] [(.int (nar .char (own_t p2))), (.int (0 : Int32)), (.ref dc)])) rfl rfl (hb hby at_117)
      have V_tl := V_tl.other W58 ne_tl_dc
      have V_dc : Arv Z h58 dc k53 .char (2 : Int32) [(.int (nar .char (nar .char (own_t p2)))), (.int (0 : Int32))] (.int (0 : Int32)) := Arv.set Ar58 q58 S58 N58 H58 G58 (fits_nar_char _) W58 0 rfl (Nat.le_of_ble_eq_true rfl)
      have Z0 := Nat.le_trans Z0 (Keep.of_wr W58).1
      have K0 := K0.wr W58 (Or.inr sz_dc)
      have N58r := Fr.snoc X58 N12r g_dc
      have go59 : Go p e below T58 (mkF m 118 #[.val (.int p1), .val (.int p2), .val (.int p3), .val (.int p4), .val (.int (2 : Int32)), .val (.int (0 : Int32)), .val (.int (2 : Int32)), .val (.ref tl), .val .null, .val (.ref dc), .unset, .unset, .unset, .unset] []) S0 := fun t kt => go57 t (st58 _ kt)
      have go60 : Go p e below T58 (mkF m 130 #[.val (.int p1), .val (.int p2), .val (.int p3), .val (.int p4), .val (.int (2 : Int32)), .val (.int (0 : Int32)), .val (.int (2 : Int32)), .val (.ref tl), .val .null, .val (.ref dc), .unset, .unset, .unset, .unset] [(.int (1 : Int32)), (.ref tl), (.int (1 : Int32)), (.ref dc)]) S0 := by
        intro tt kt
        refine go59 tt ?_
        refine XS.iload X58.here hx rfl (hb hby at_118) rfl ?_
        refine XS.iconst X58.here hx rfl (hb hby at_120) ?_
        refine XS.icmpNo X58.here hx rfl (hb hby at_121) rfl (tlt (by decide)).2.2.2 ?_
        refine XS.aload X58.here hx rfl (hb hby at_124) rfl rfl ?_
        refine XS.iconst X58.here hx rfl (hb hby at_126) ?_
        refine XS.aload X58.here hx rfl (hb hby at_127) rfl rfl ?_
        refine XS.iconst X58.here hx rfl (hb hby at_129) ?_
        exact kt
      obtain ⟨cl61, Ar61, q61, S61, N61, H61, G61⟩ := id V_tl
      have go62 : Go p e below T58 (mkF m 131 #[.val (.int p1), .val (.int p2), .val (.int p3), .val (.int p4), .val (.int (2 : Int32)), .val (.int (0 : Int32)), .val (.int (2 : Int32)), .val (.ref tl), .val .null, .val (.ref dc), .unset, .unset, .unset, .unset] [(.int (nar .char (own_t p3))), (.int (1 : Int32)), (.ref dc)]) S0 := by
        intro tt kt
        refine go60 tt ?_
        refine X58.caload hx (j := (1 : Int32)) (v := (.int (nar .char (own_t p3)))) (by rw [e58]; exact Ar61.1) (State.isArrayOf_alike hZ.alike Ar61.2.1) Ar61.2.2 (inb_of S61 ⟨by decide, by decide⟩) (H61 1 (by rw [S61]; decide)) (g := (mkF m 130 #[.val (.int p1), .val (.int p2), .val (.int p3), .val (.int p4), .val (.int (2 : Int32)), .val (.int (0 : Int32)), .val (.int (2 : Int32)), .val (.ref tl), .val .null, .val (.ref dc), .unset, .unset, .unset, .unset] [(.int (1 : Int32)), (.ref tl), (.int (1 : Int32)), (.ref dc)])) rfl rfl (hb hby at_130) _ ?_
        exact kt
      obtain ⟨cl63, Ar63, q63, S63, N63, H63, G63⟩ := V_dc
      obtain ⟨T63, h63, X63, e63, W63, st63⟩ := stC X58 hx hZ e58 Ar63 (j := (1 : Int32)) (inb_of S63 ⟨by decide, by decide⟩) (g := (mkF m 131 #[.val (.int p1), .val (.int p2), .val (.int p3), .val (.int p4), .val (.int (2 : Int32)), .val (.int (0 : Int32)), .val (.int (2 : Int32)), .val (.ref tl), .val .null, .val (.ref dc), .unset, .unset, .unset, .unset] [(.int (nar .char (own_t p3))), (.int (1 : Int32)), (.ref dc)])) rfl rfl (hb hby at_131)
      have V_tl := V_tl.other W63 ne_tl_dc
      have V_dc : Arv Z h63 dc k53 .char (2 : Int32) [(.int (nar .char (nar .char (own_t p2)))), (.int (nar .char (nar .char (own_t p3))))] (.int (0 : Int32)) := Arv.set Ar63 q63 S63 N63 H63 G63 (fits_nar_char _) W63 1 rfl (Nat.le_of_ble_eq_true rfl)
      have Z0 := Nat.le_trans Z0 (Keep.of_wr W63).1
      have K0 := K0.wr W63 (Or.inr sz_dc)
      have N63r := Fr.snoc X63 N58r g_dc
      have go64 : Go p e below T63 (mkF m 132 #[.val (.int p1), .val (.int p2), .val (.int p3), .val (.int p4), .val (.int (2 : Int32)), .val (.int (0 : Int32)), .val (.int (2 : Int32)), .val (.ref tl), .val .null, .val (.ref dc), .unset, .unset, .unset, .unset] []) S0 := fun t kt => go62 t (st63 _ kt)
      have lt_tl := V_tl.lt
      have go65 : Go p e below T63 (mkF m 146 #[.val (.int p1), .val (.int p2), .val (.int p3), .val (.int p4), .val (.int (2 : Int32)), .val (.int (0 : Int32)), .val (.int (2 : Int32)), .val (.ref tl), .val .null, .val (.ref dc), .unset, .unset, .unset, .unset] []) S0 := by
        intro tt kt
        refine go64 tt ?_
        refine XS.iload X63.here hx rfl (hb hby at_132) rfl ?_
        refine XS.iconst X63.here hx rfl (hb hby at_134) ?_
        refine XS.icmpYes X63.here hx rfl (pc0 := 135) (pc' := 146) rfl (hb hby at_135) rfl (flt (by decide)).2.2.2 (by decide) (by decide) ?_
        exact kt
      obtain ⟨T66, h66, X66, e66, E66, A66, D66, -, st66⟩ := newO X63 hx hZ hown (wi hw 2 rfl) (wi hw 3 rfl) (wi hw 4 rfl) e63 (g := (mkF m 146 #[.val (.int p1), .val (.int p2), .val (.int p3), .val (.int p4), .val (.int (2 : Int32)), .val (.int (0 : Int32)), .val (.int (2 : Int32)), .val (.ref tl), .val .null, .val (.ref dc), .unset, .unset, .unset, .unset] [])) rfl (hb hby at_146) (by decide) (by decide)
      obtain ⟨a8, g66⟩ : ∃ z, z = h63.size := ⟨_, rfl⟩
      rw [← g66] at A66 D66 st66
      have g_a8 : n0 ≤ a8 := Nat.le_trans Z0 (Nat.le_of_eq g66.symm)
      have sz_a8 : h0.size ≤ a8 := Nat.le_trans K0.1 (Nat.le_of_eq g66.symm)
      have V_tl := V_tl.ext E66
      have V_dc := V_dc.ext E66
      have Z0 := Nat.le_trans Z0 E66.1
      have K0 := K0.ext E66
      have go67 : Go p e below T66 (mkF m 149 #[.val (.int p1), .val (.int p2), .val (.int p3), .val (.int p4), .val (.int (2 : Int32)), .val (.int (0 : Int32)), .val (.int (2 : Int32)), .val (.ref tl), .val .null, .val (.ref dc), .unset, .unset, .unset, .unset] [(.ref a8)]) S0 := fun t kt => go65 t (st66 _ kt)
      have E_a8 := A66
      have F_value_a8 : Fld Z h66 a8 "java/lang/String" "value" "[B" .null := D66 (Or.inr (wi hw 17 rfl)) (ty := (.array .byte)) (by decide)
      have F_coder_a8 : Fld Z h66 a8 "java/lang/String" "coder" "B" (.int (0 : Int32)) := D66 (Or.inr (wi hw 18 rfl)) (ty := .byte) (by decide)
      have ne_tl_a8 : tl ≠ a8 := oR lt_tl (Nat.le_of_eq g66.symm)
      have go68 : Go p e below T66 (mkF m 152 #[.val (.int p1), .val (.int p2), .val (.int p3), .val (.int p4), .val (.int (2 : Int32)), .val (.int (0 : Int32)), .val (.int (2 : Int32)), .val (.ref tl), .val .null, .val (.ref dc), .unset, .unset, .unset, .unset] [(.ref dc), (.ref a8), (.ref a8)]) S0 := by
        intro tt kt
        refine go67 tt ?_
        refine XS.dup X66.here hx rfl (hb hby at_149) rfl rfl ?_
        refine XS.aload X66.here hx rfl (hb hby at_150) rfl rfl ?_
        exact kt
      obtain ⟨_, _, ⟨T69, L69, k69, n69⟩, -, X69, ⟨Lc69, hQ69, l69, y69, z69⟩, st69⟩ := X66.specialBack hx (y := y3_) rfl hown (mvT hZ (wi hw 5 rfl)) (mvT hZ (wi hw 6 rfl)) (mvT hZ (wi hw 7 rfl)) (by decide) (backOf (W := 1) (rm_si1 l Z a0 hw [] a8 dc 2 k53 [nar .char (nar .char (own_t p2)), nar .char (nar .char (own_t p3))] zc h66 n0 Z0 (oO O0 K0 hn0 all0) hn0 S_AD S_HI S_LO S_CS P5 E_a8 F_value_a8 F_coder_a8 g_a8 rfl (by decide) (by decide) V_dc (fun c hc => by simp only [List.mem_cons, List.not_mem_nil, or_false] at hc; rcases hc with rfl | rfl <;> exact own_narC _)) hZ (wi hw 7 rfl) (wi hw 4 rfl) (by decide) (by decide)) (g := (mkF m 152 #[.val (.int p1), .val (.int p2), .val (.int p3), .val (.int p4), .val (.int (2 : Int32)), .val (.int (0 : Int32)), .val (.int (2 : Int32)), .val (.ref tl), .val .null, .val (.ref dc), .unset, .unset, .unset, .unset] [(.ref dc), (.ref a8), (.ref a8)])) rfl (by rw [hml]; rfl) (Steps.refl _) (a := a8) (argsL := [(.ref dc)]) (rest := [(.ref a8)]) (lenOf pd26_ rfl) rfl (by show 2 * 0 + _ ≤ _; exact Nat.le_of_eq rfl) (hb hby at_152) (fun _ _ => ⟨rfl, e66, (by decide : 3 + 2 ≤ _), (by decide : 10 + 89 ≤ _)⟩)
      dsimp only [Pt.U, Pt.locs, Pt.cells, Pt.slots] at X69 l69 y69 z69 st69 hQ69
      subst l69 y69 z69
      obtain ⟨rfl, N69q, K69, B_8⟩ := hQ69
      have V_tl := V_tl.keep K69 (ninS ne_tl_a8 nin0)
      have K0 := K0.trans K69 (allS (Or.inr sz_a8) all0)
      have Z0 := Nat.le_trans Z0 K69.1
      have N69 := Fr.app N63r N69q
      have go70 : Go p e below T69 (mkF m 155 #[.val (.int p1), .val (.int p2), .val (.int p3), .val (.int p4), .val (.int (2 : Int32)), .val (.int (0 : Int32)), .val (.int (2 : Int32)), .val (.ref tl), .val .null, .val (.ref dc), .unset, .unset, .unset, .unset] [(.ref a8)]) S0 := fun t kt => go68 t (st69.trans kt)
      have go71 : Go p e below T69 (mkF m 157 #[.val (.int p1), .val (.int p2), .val (.int p3), .val (.int p4), .val (.int (2 : Int32)), .val (.int (0 : Int32)), .val (.int (2 : Int32)), .val (.ref tl), .val (.ref a8), .val (.ref dc), .unset, .unset, .unset, .unset] []) S0 := by
        intro tt kt
        refine go70 tt ?_
        refine XS.astore X69.here hx rfl (hb hby at_155) rfl rfl (l' := #[.val (.int p1), .val (.int p2), .val (.int p3), .val (.int p4), .val (.int (2 : Int32)), .val (.int (0 : Int32)), .val (.int (2 : Int32)), .val (.ref tl), .val (.ref a8), .val (.ref dc), .unset, .unset, .unset, .unset]) rfl ?_
        exact kt
      have EK := oE K0
      have O0 : OldE Z T69.heap := O0.ext EK
      have hk := Nat.le_trans hk EK.1
      have R0 := R0.trans (CHr.ext EK R0.1)
      obtain ⟨pp, T72, h72, k72, b72, c72, X72, e72, E72, hS72, hk72, hZ72, hown72, EX72, CO72, VA72, AR72, -, -, CR72, LI72, NE72, st72⟩ := ldcCH X69 hx hZ hown (wi hw 23 rfl) hstr rfl hS hk hEL (by simp [own_EL]) R0.1 (vs := ((([(109 : Int32), (97 : Int32), (108 : Int32), (102 : Int32), (111 : Int32), (114 : Int32), (109 : Int32), (101 : Int32), (100 : Int32), (32 : Int32), (115 : Int32), (116 : Int32), (97 : Int32), (116 : Int32), (101 : Int32), (58 : Int32), (32 : Int32)] : List Int32).map (fun c => c.toInt8.toInt32)).map Value.int)) (z := (17 : Int32)) (own_text_pp : _ ∧ _) (by decide) rfl (g := (mkF m 157 #[.val (.int p1), .val (.int p2), .val (.int p3), .val (.int p4), .val (.int (2 : Int32)), .val (.int (0 : Int32)), .val (.int (2 : Int32)), .val (.ref tl), .val (.ref a8), .val (.ref dc), .unset, .unset, .unset, .unset] [])) rfl (hb hby at_157) (n := 68) (by decide +kernel) (by decide) (by decide) (by decide)
      have V_tl := V_tl.ext E72
      have B_8 := B_8.ext E72
      have O0 := O0.ext E72
      have Z0 := Nat.le_trans Z0 E72.1
      have R0 := R0.trans CR72
      have go73 : Go p e below T72 (mkF m 159 #[.val (.int p1), .val (.int p2), .val (.int p3), .val (.int p4), .val (.int (2 : Int32)), .val (.int (0 : Int32)), .val (.int (2 : Int32)), .val (.ref tl), .val (.ref a8), .val (.ref dc), .unset, .unset, .unset, .unset] [(.ref pp)]) S0 := fun t kt => go71 t (st72 _ kt)
      have L_pp : Str Z h72 pp [(109 : Int32), (97 : Int32), (108 : Int32), (102 : Int32), (111 : Int32), (114 : Int32), (109 : Int32), (101 : Int32), (100 : Int32), (32 : Int32), (115 : Int32), (116 : Int32), (97 : Int32), (116 : Int32), (101 : Int32), (58 : Int32), (32 : Int32)] := ⟨b72, c72, EX72, CO72, VA72, AR72, by decide, by decide⟩
      have B_pp : Bs Z h72 pp (0 : Int32) own_PB := ⟨b72, c72, EX72, CO72, VA72, by rw [own_PBl]; exact oA AR72 own_PBe⟩
      have go74 : Go p e below T72 (mkF m 161 #[.val (.int p1), .val (.int p2), .val (.int p3), .val (.int p4), .val (.int (2 : Int32)), .val (.int (0 : Int32)), .val (.int (2 : Int32)), .val (.ref tl), .val (.ref a8), .val (.ref pp), .unset, .unset, .unset, .unset] []) S0 := by
        intro tt kt
        refine go73 tt ?_
        refine XS.astore X72.here hx rfl (hb hby at_159) rfl rfl (l' := #[.val (.int p1), .val (.int p2), .val (.int p3), .val (.int p4), .val (.int (2 : Int32)), .val (.int (0 : Int32)), .val (.int (2 : Int32)), .val (.ref tl), .val (.ref a8), .val (.ref pp), .unset, .unset, .unset, .unset]) rfl ?_
        exact kt
      obtain ⟨T75, h75, L75, ex, kx, X75, e75, N75, E75, V_ex, st75⟩ := own_mid (n := 2) (z0 := .val (.int p1)) (z1 := .val (.int p2)) (z2 := .val (.int p3)) (z3 := .val (.int p4)) (z4 := .val (.int (2 : Int32))) (z5 := .val (.int (0 : Int32))) (z8 := .val (.ref a8)) hw X72 hx hZ72 hown72 hml e72 Z0 N69 (by decide) (by decide) O0 S_CS P5 S_SI rf hn0 hby B_pp V_tl (by omega)
      have go76 : Go p e below T75 (mkF m 421 #[.val (.int p1), .val (.int p2), .val (.int p3), .val (.int p4), .val (.int (2 : Int32)), .val (.int (0 : Int32)), .val (.int (Int32.ofNat 2)), .val (.ref tl), .val (.ref a8), .val (.ref pp), .val (.ref ex), .unset, .unset, .unset] []) S0 := fun t kt => go74 t (st75 t kt)
      have O0 : OldE Z h75 := O0.ext E75
      have B_pp := B_pp.ext E75
      have hk72 := Nat.le_trans hk72 E75.1
      have Z0 := Nat.le_trans Z0 E75.1
      have R0 := R0.trans (CHr.ext E75 R0.1)
      have B_8 := B_8.ext E75
      obtain ⟨s2, o2, st2, r1, r2, v2, L2, r3, ⟨rfl, r4⟩, r5⟩ := own_tailR (cs := [nar .char (nar .char (own_t p2)), nar .char (nar .char (own_t p3))]) (z0 := .val (.int p1)) (z1 := .val (.int p2)) (z2 := .val (.int p3)) (z3 := .val (.int p4)) (z4 := .val (.int (2 : Int32))) (z5 := .val (.int (0 : Int32))) (z6 := .val (.int (Int32.ofNat 2))) (z7 := .val (.ref tl)) hw hEL X75 hx hZ72 hown72 hby hml Bd.returns Bd.notSynchronized e75 hS72 hk72 R0 Z0 N75 O0 hn0 S_CS P5 S_AD S_HI S_LO S_SI rf S_UN S_SP hl hTK hBelow (by decide) (by decide) B_pp V_ex (own_chcat (fun c hc => by simp only [List.mem_cons, List.not_mem_nil, or_false] at hc; rcases hc with rfl | rfl <;> exact ⟨_, rfl⟩)) B_8 (Nat.le_of_ble_eq_true rfl)
      exact ⟨s2, o2, go76 _ st2, r1, r2, _, L2, r3, ⟨rfl, r4⟩, r5⟩
    · have cv77 : (p1 &&& (7 : Int32)) = (3 : Int32) := hk4
      have go77 : Go p e below T12 (mkF m 99 #[.val (.int p1), .val (.int p2), .val (.int p3), .val (.int p4), .val (.int (3 : Int32)), .val (.int (0 : Int32)), .val (.int (3 : Int32)), .val (.ref tl), .val .null, .unset, .unset, .unset, .unset, .unset] []) S0 := by have q := go13; rw [cv77] at q; exact q
      have go78 : Go p e below T12 (mkF m 101 #[.val (.int p1), .val (.int p2), .val (.int p3), .val (.int p4), .val (.int (3 : Int32)), .val (.int (0 : Int32)), .val (.int (3 : Int32)), .val (.ref tl), .val .null, .unset, .unset, .unset, .unset, .unset] [(.int (3 : Int32))]) S0 := by
        intro tt kt
        refine go77 tt ?_
        refine XS.iload X12.here hx rfl (hb hby at_99) rfl ?_
        exact kt
      obtain ⟨T79, h79, k79, X79, e79, E79, A79, st79⟩ := newP X12 hx hZ (wi hw 0 rfl) e12 (g := (mkF m 101 #[.val (.int p1), .val (.int p2), .val (.int p3), .val (.int p4), .val (.int (3 : Int32)), .val (.int (0 : Int32)), .val (.int (3 : Int32)), .val (.ref tl), .val .null, .unset, .unset, .unset, .unset, .unset] [(.int (3 : Int32))])) rfl (hb hby at_101) rfl (by decide) (cap := 3) (by decide) (by decide) (by decide) (by decide)
      obtain ⟨dc, g79⟩ : ∃ z, z = h12.size := ⟨_, rfl⟩
      rw [← g79] at A79 st79
      have g_dc : n0 ≤ dc := Nat.le_trans Z0 (Nat.le_of_eq g79.symm)
      have sz_dc : h0.size ≤ dc := Nat.le_trans K0.1 (Nat.le_of_eq g79.symm)
      have ne_tl_dc : tl ≠ dc := Nat.ne_of_lt (Nat.lt_of_lt_of_le V_tl.lt (Nat.le_of_eq g79.symm))
      have V_tl := V_tl.ext E79
      have Z0 := Nat.le_trans Z0 E79.1
      have K0 := K0.ext E79
      have go80 : Go p e below T79 (mkF m 103 #[.val (.int p1), .val (.int p2), .val (.int p3), .val (.int p4), .val (.int (3 : Int32)), .val (.int (0 : Int32)), .val (.int (3 : Int32)), .val (.ref tl), .val .null, .unset, .unset, .unset, .unset, .unset] [(.ref dc)]) S0 := fun t kt => go78 t (st79 _ kt)
      have V_dc : Arv Z h79 dc k79 .char (3 : Int32) [(.int (0 : Int32)), (.int (0 : Int32)), (.int (0 : Int32))] (.int (0 : Int32)) := (Arv.new A79 (by decide)).pad (pad_rep [] (.int (0 : Int32)) 3)
      have ne_dc_tl := ne_tl_dc.symm
      have go81 : Go p e below T79 (mkF m 116 #[.val (.int p1), .val (.int p2), .val (.int p3), .val (.int p4), .val (.int (3 : Int32)), .val (.int (0 : Int32)), .val (.int (3 : Int32)), .val (.ref tl), .val .null, .val (.ref dc), .unset, .unset, .unset, .unset] [(.int (0 : Int32)), (.ref tl), (.int (0 : Int32)), (.ref dc)]) S0 := by
        intro tt kt
        refine go80 tt ?_
        refine XS.astore X79.here hx rfl (hb hby at_103) rfl rfl (l' := #[.val (.int p1), .val (.int p2), .val (.int p3), .val (.int p4), .val (.int (3 : Int32)), .val (.int (0 : Int32)), .val (.int (3 : Int32)), .val (.ref tl), .val .null, .val (.ref dc), .unset, .unset, .unset, .unset]) rfl ?_
        refine XS.iload X79.here hx rfl (hb hby at_105) rfl ?_
        refine XS.ifNo X79.here hx rfl (hb hby at_107) rfl ((if0 _ _).trans (tlt (by decide)).2.2.2) ?_
        refine XS.aload X79.here hx rfl (hb hby at_110) rfl rfl ?_
        refine XS.iconst X79.here hx rfl (hb hby at_112) ?_
        refine XS.aload X79.here hx rfl (hb hby at_113) rfl rfl ?_
        refine XS.iconst X79.here hx rfl (hb hby at_115) ?_
        exact kt
      obtain ⟨cl82, Ar82, q82, S82, N82, H82, G82⟩ := id V_tl
      have go83 : Go p e below T79 (mkF m 117 #[.val (.int p1), .val (.int p2), .val (.int p3), .val (.int p4), .val (.int (3 : Int32)), .val (.int (0 : Int32)), .val (.int (3 : Int32)), .val (.ref tl), .val .null, .val (.ref dc), .unset, .unset, .unset, .unset] [(.int (nar .char (own_t p2))), (.int (0 : Int32)), (.ref dc)]) S0 := by
        intro tt kt
        refine go81 tt ?_
        refine X79.caload hx (j := (0 : Int32)) (v := (.int (nar .char (own_t p2)))) (by rw [e79]; exact Ar82.1) (State.isArrayOf_alike hZ.alike Ar82.2.1) Ar82.2.2 (inb_of S82 ⟨by decide, by decide⟩) (H82 0 (by rw [S82]; decide)) (g := (mkF m 116 #[.val (.int p1), .val (.int p2), .val (.int p3), .val (.int p4), .val (.int (3 : Int32)), .val (.int (0 : Int32)), .val (.int (3 : Int32)), .val (.ref tl), .val .null, .val (.ref dc), .unset, .unset, .unset, .unset] [(.int (0 : Int32)), (.ref tl), (.int (0 : Int32)), (.ref dc)])) rfl rfl (hb hby at_116) _ ?_
        exact kt
      obtain ⟨cl84, Ar84, q84, S84, N84, H84, G84⟩ := V_dc
      obtain ⟨T84, h84, X84, e84, W84, st84⟩ := stC X79 hx hZ e79 Ar84 (j := (0 : Int32)) (inb_of S84 ⟨by decide, by decide⟩) (g := (mkF m 117 #[.val (.int p1), .val (.int p2), .val (.int p3), .val (.int p4), .val (.int (3 : Int32)), .val (.int (0 : Int32)), .val (.int (3 : Int32)), .val (.ref tl), .val .null, .val (.ref dc), .unset, .unset, .unset, .unset] [(.int (nar .char (own_t p2))), (.int (0 : Int32)), (.ref dc)])) rfl rfl (hb hby at_117)
      have V_tl := V_tl.other W84 ne_tl_dc
      have V_dc : Arv Z h84 dc k79 .char (3 : Int32) [(.int (nar .char (nar .char (own_t p2)))), (.int (0 : Int32)), (.int (0 : Int32))] (.int (0 : Int32)) := Arv.set Ar84 q84 S84 N84 H84 G84 (fits_nar_char _) W84 0 rfl (Nat.le_of_ble_eq_true rfl)
      have Z0 := Nat.le_trans Z0 (Keep.of_wr W84).1
      have K0 := K0.wr W84 (Or.inr sz_dc)
      have N84r := Fr.snoc X84 N12r g_dc
      have go85 : Go p e below T84 (mkF m 118 #[.val (.int p1), .val (.int p2), .val (.int p3), .val (.int p4), .val (.int (3 : Int32)), .val (.int (0 : Int32)), .val (.int (3 : Int32)), .val (.ref tl), .val .null, .val (.ref dc), .unset, .unset, .unset, .unset] []) S0 := fun t kt => go83 t (st84 _ kt)
      have go86 : Go p e below T84 (mkF m 130 #[.val (.int p1), .val (.int p2), .val (.int p3), .val (.int p4), .val (.int (3 : Int32)), .val (.int (0 : Int32)), .val (.int (3 : Int32)), .val (.ref tl), .val .null, .val (.ref dc), .unset, .unset, .unset, .unset] [(.int (1 : Int32)), (.ref tl), (.int (1 : Int32)), (.ref dc)]) S0 := by
        intro tt kt
        refine go85 tt ?_
        refine XS.iload X84.here hx rfl (hb hby at_118) rfl ?_
        refine XS.iconst X84.here hx rfl (hb hby at_120) ?_
        refine XS.icmpNo X84.here hx rfl (hb hby at_121) rfl (tlt (by decide)).2.2.2 ?_
        refine XS.aload X84.here hx rfl (hb hby at_124) rfl rfl ?_
        refine XS.iconst X84.here hx rfl (hb hby at_126) ?_
        refine XS.aload X84.here hx rfl (hb hby at_127) rfl rfl ?_
        refine XS.iconst X84.here hx rfl (hb hby at_129) ?_
        exact kt
      obtain ⟨cl87, Ar87, q87, S87, N87, H87, G87⟩ := id V_tl
      have go88 : Go p e below T84 (mkF m 131 #[.val (.int p1), .val (.int p2), .val (.int p3), .val (.int p4), .val (.int (3 : Int32)), .val (.int (0 : Int32)), .val (.int (3 : Int32)), .val (.ref tl), .val .null, .val (.ref dc), .unset, .unset, .unset, .unset] [(.int (nar .char (own_t p3))), (.int (1 : Int32)), (.ref dc)]) S0 := by
        intro tt kt
        refine go86 tt ?_
        refine X84.caload hx (j := (1 : Int32)) (v := (.int (nar .char (own_t p3)))) (by rw [e84]; exact Ar87.1) (State.isArrayOf_alike hZ.alike Ar87.2.1) Ar87.2.2 (inb_of S87 ⟨by decide, by decide⟩) (H87 1 (by rw [S87]; decide)) (g := (mkF m 130 #[.val (.int p1), .val (.int p2), .val (.int p3), .val (.int p4), .val (.int (3 : Int32)), .val (.int (0 : Int32)), .val (.int (3 : Int32)), .val (.ref tl), .val .null, .val (.ref dc), .unset, .unset, .unset, .unset] [(.int (1 : Int32)), (.ref tl), (.int (1 : Int32)), (.ref dc)])) rfl rfl (hb hby at_130) _ ?_
        exact kt
      obtain ⟨cl89, Ar89, q89, S89, N89, H89, G89⟩ := V_dc
      obtain ⟨T89, h89, X89, e89, W89, st89⟩ := stC X84 hx hZ e84 Ar89 (j := (1 : Int32)) (inb_of S89 ⟨by decide, by decide⟩) (g := (mkF m 131 #[.val (.int p1), .val (.int p2), .val (.int p3), .val (.int p4), .val (.int (3 : Int32)), .val (.int (0 : Int32)), .val (.int (3 : Int32)), .val (.ref tl), .val .null, .val (.ref dc), .unset, .unset, .unset, .unset] [(.int (nar .char (own_t p3))), (.int (1 : Int32)), (.ref dc)])) rfl rfl (hb hby at_131)
      have V_tl := V_tl.other W89 ne_tl_dc
      have V_dc : Arv Z h89 dc k79 .char (3 : Int32) [(.int (nar .char (nar .char (own_t p2)))), (.int (nar .char (nar .char (own_t p3)))), (.int (0 : Int32))] (.int (0 : Int32)) := Arv.set Ar89 q89 S89 N89 H89 G89 (fits_nar_char _) W89 1 rfl (Nat.le_of_ble_eq_true rfl)
      have Z0 := Nat.le_trans Z0 (Keep.of_wr W89).1
      have K0 := K0.wr W89 (Or.inr sz_dc)
      have N89r := Fr.snoc X89 N84r g_dc
      have go90 : Go p e below T89 (mkF m 132 #[.val (.int p1), .val (.int p2), .val (.int p3), .val (.int p4), .val (.int (3 : Int32)), .val (.int (0 : Int32)), .val (.int (3 : Int32)), .val (.ref tl), .val .null, .val (.ref dc), .unset, .unset, .unset, .unset] []) S0 := fun t kt => go88 t (st89 _ kt)
      have go91 : Go p e below T89 (mkF m 144 #[.val (.int p1), .val (.int p2), .val (.int p3), .val (.int p4), .val (.int (3 : Int32)), .val (.int (0 : Int32)), .val (.int (3 : Int32)), .val (.ref tl), .val .null, .val (.ref dc), .unset, .unset, .unset, .unset] [(.int (2 : Int32)), (.ref tl), (.int (2 : Int32)), (.ref dc)]) S0 := by
        intro tt kt
        refine go90 tt ?_
        refine XS.iload X89.here hx rfl (hb hby at_132) rfl ?_
        refine XS.iconst X89.here hx rfl (hb hby at_134) ?_
        refine XS.icmpNo X89.here hx rfl (hb hby at_135) rfl (tlt (by decide)).2.2.2 ?_
        refine XS.aload X89.here hx rfl (hb hby at_138) rfl rfl ?_
        refine XS.iconst X89.here hx rfl (hb hby at_140) ?_
        refine XS.aload X89.here hx rfl (hb hby at_141) rfl rfl ?_
        refine XS.iconst X89.here hx rfl (hb hby at_143) ?_
        exact kt
      obtain ⟨cl92, Ar92, q92, S92, N92, H92, G92⟩ := id V_tl
      have go93 : Go p e below T89 (mkF m 145 #[.val (.int p1), .val (.int p2), .val (.int p3), .val (.int p4), .val (.int (3 : Int32)), .val (.int (0 : Int32)), .val (.int (3 : Int32)), .val (.ref tl), .val .null, .val (.ref dc), .unset, .unset, .unset, .unset] [(.int (nar .char (own_t p4))), (.int (2 : Int32)), (.ref dc)]) S0 := by
        intro tt kt
        refine go91 tt ?_
        refine X89.caload hx (j := (2 : Int32)) (v := (.int (nar .char (own_t p4)))) (by rw [e89]; exact Ar92.1) (State.isArrayOf_alike hZ.alike Ar92.2.1) Ar92.2.2 (inb_of S92 ⟨by decide, by decide⟩) (H92 2 (by rw [S92]; decide)) (g := (mkF m 144 #[.val (.int p1), .val (.int p2), .val (.int p3), .val (.int p4), .val (.int (3 : Int32)), .val (.int (0 : Int32)), .val (.int (3 : Int32)), .val (.ref tl), .val .null, .val (.ref dc), .unset, .unset, .unset, .unset] [(.int (2 : Int32)), (.ref tl), (.int (2 : Int32)), (.ref dc)])) rfl rfl (hb hby at_144) _ ?_
        exact kt
      obtain ⟨cl94, Ar94, q94, S94, N94, H94, G94⟩ := V_dc
      obtain ⟨T94, h94, X94, e94, W94, st94⟩ := stC X89 hx hZ e89 Ar94 (j := (2 : Int32)) (inb_of S94 ⟨by decide, by decide⟩) (g := (mkF m 145 #[.val (.int p1), .val (.int p2), .val (.int p3), .val (.int p4), .val (.int (3 : Int32)), .val (.int (0 : Int32)), .val (.int (3 : Int32)), .val (.ref tl), .val .null, .val (.ref dc), .unset, .unset, .unset, .unset] [(.int (nar .char (own_t p4))), (.int (2 : Int32)), (.ref dc)])) rfl rfl (hb hby at_145)
      have V_tl := V_tl.other W94 ne_tl_dc
      have V_dc : Arv Z h94 dc k79 .char (3 : Int32) [(.int (nar .char (nar .char (own_t p2)))), (.int (nar .char (nar .char (own_t p3)))), (.int (nar .char (nar .char (own_t p4))))] (.int (0 : Int32)) := Arv.set Ar94 q94 S94 N94 H94 G94 (fits_nar_char _) W94 2 rfl (Nat.le_of_ble_eq_true rfl)
      have Z0 := Nat.le_trans Z0 (Keep.of_wr W94).1
      have K0 := K0.wr W94 (Or.inr sz_dc)
      have N94r := Fr.snoc X94 N89r g_dc
      have go95 : Go p e below T94 (mkF m 146 #[.val (.int p1), .val (.int p2), .val (.int p3), .val (.int p4), .val (.int (3 : Int32)), .val (.int (0 : Int32)), .val (.int (3 : Int32)), .val (.ref tl), .val .null, .val (.ref dc), .unset, .unset, .unset, .unset] []) S0 := fun t kt => go93 t (st94 _ kt)
      have lt_tl := V_tl.lt
      obtain ⟨T96, h96, X96, e96, E96, A96, D96, -, st96⟩ := newO X94 hx hZ hown (wi hw 2 rfl) (wi hw 3 rfl) (wi hw 4 rfl) e94 (g := (mkF m 146 #[.val (.int p1), .val (.int p2), .val (.int p3), .val (.int p4), .val (.int (3 : Int32)), .val (.int (0 : Int32)), .val (.int (3 : Int32)), .val (.ref tl), .val .null, .val (.ref dc), .unset, .unset, .unset, .unset] [])) rfl (hb hby at_146) (by decide) (by decide)
      obtain ⟨a8, g96⟩ : ∃ z, z = h94.size := ⟨_, rfl⟩
      rw [← g96] at A96 D96 st96
      have g_a8 : n0 ≤ a8 := Nat.le_trans Z0 (Nat.le_of_eq g96.symm)
      have sz_a8 : h0.size ≤ a8 := Nat.le_trans K0.1 (Nat.le_of_eq g96.symm)
      have V_tl := V_tl.ext E96
      have V_dc := V_dc.ext E96
      have Z0 := Nat.le_trans Z0 E96.1
      have K0 := K0.ext E96
      have go97 : Go p e below T96 (mkF m 149 #[.val (.int p1), .val (.int p2), .val (.int p3), .val (.int p4), .val (.int (3 : Int32)), .val (.int (0 : Int32)), .val (.int (3 : Int32)), .val (.ref tl), .val .null, .val (.ref dc), .unset, .unset, .unset, .unset] [(.ref a8)]) S0 := fun t kt => go95 t (st96 _ kt)
      have E_a8 := A96
      have F_value_a8 : Fld Z h96 a8 "java/lang/String" "value" "[B" .null := D96 (Or.inr (wi hw 17 rfl)) (ty := (.array .byte)) (by decide)
      have F_coder_a8 : Fld Z h96 a8 "java/lang/String" "coder" "B" (.int (0 : Int32)) := D96 (Or.inr (wi hw 18 rfl)) (ty := .byte) (by decide)
      have ne_tl_a8 : tl ≠ a8 := oR lt_tl (Nat.le_of_eq g96.symm)
      have go98 : Go p e below T96 (mkF m 152 #[.val (.int p1), .val (.int p2), .val (.int p3), .val (.int p4), .val (.int (3 : Int32)), .val (.int (0 : Int32)), .val (.int (3 : Int32)), .val (.ref tl), .val .null, .val (.ref dc), .unset, .unset, .unset, .unset] [(.ref dc), (.ref a8), (.ref a8)]) S0 := by
        intro tt kt
        refine go97 tt ?_
        refine XS.dup X96.here hx rfl (hb hby at_149) rfl rfl ?_
        refine XS.aload X96.here hx rfl (hb hby at_150) rfl rfl ?_
        exact kt
      obtain ⟨_, _, ⟨T99, L99, k99, n99⟩, -, X99, ⟨Lc99, hQ99, l99, y99, z99⟩, st99⟩ := X96.specialBack hx (y := y3_) rfl hown (mvT hZ (wi hw 5 rfl)) (mvT hZ (wi hw 6 rfl)) (mvT hZ (wi hw 7 rfl)) (by decide) (backOf (W := 1) (rm_si1 l Z a0 hw [] a8 dc 3 k79 [nar .char (nar .char (own_t p2)), nar .char (nar .char (own_t p3)), nar .char (nar .char (own_t p4))] zc h96 n0 Z0 (oO O0 K0 hn0 all0) hn0 S_AD S_HI S_LO S_CS P5 E_a8 F_value_a8 F_coder_a8 g_a8 rfl (by decide) (by decide) V_dc (fun c hc => by simp only [List.mem_cons, List.not_mem_nil, or_false] at hc; rcases hc with rfl | rfl | rfl <;> exact own_narC _)) hZ (wi hw 7 rfl) (wi hw 4 rfl) (by decide) (by decide)) (g := (mkF m 152 #[.val (.int p1), .val (.int p2), .val (.int p3), .val (.int p4), .val (.int (3 : Int32)), .val (.int (0 : Int32)), .val (.int (3 : Int32)), .val (.ref tl), .val .null, .val (.ref dc), .unset, .unset, .unset, .unset] [(.ref dc), (.ref a8), (.ref a8)])) rfl (by rw [hml]; rfl) (Steps.refl _) (a := a8) (argsL := [(.ref dc)]) (rest := [(.ref a8)]) (lenOf pd26_ rfl) rfl (by show 2 * 0 + _ ≤ _; exact Nat.le_of_eq rfl) (hb hby at_152) (fun _ _ => ⟨rfl, e96, (by decide : 3 + 2 ≤ _), (by decide : 11 + 89 ≤ _)⟩)
      dsimp only [Pt.U, Pt.locs, Pt.cells, Pt.slots] at X99 l99 y99 z99 st99 hQ99
      subst l99 y99 z99
      obtain ⟨rfl, N99q, K99, B_8⟩ := hQ99
      have V_tl := V_tl.keep K99 (ninS ne_tl_a8 nin0)
      have K0 := K0.trans K99 (allS (Or.inr sz_a8) all0)
      have Z0 := Nat.le_trans Z0 K99.1
      have N99 := Fr.app N94r N99q
      have go100 : Go p e below T99 (mkF m 155 #[.val (.int p1), .val (.int p2), .val (.int p3), .val (.int p4), .val (.int (3 : Int32)), .val (.int (0 : Int32)), .val (.int (3 : Int32)), .val (.ref tl), .val .null, .val (.ref dc), .unset, .unset, .unset, .unset] [(.ref a8)]) S0 := fun t kt => go98 t (st99.trans kt)
      have go101 : Go p e below T99 (mkF m 157 #[.val (.int p1), .val (.int p2), .val (.int p3), .val (.int p4), .val (.int (3 : Int32)), .val (.int (0 : Int32)), .val (.int (3 : Int32)), .val (.ref tl), .val (.ref a8), .val (.ref dc), .unset, .unset, .unset, .unset] []) S0 := by
        intro tt kt
        refine go100 tt ?_
        refine XS.astore X99.here hx rfl (hb hby at_155) rfl rfl (l' := #[.val (.int p1), .val (.int p2), .val (.int p3), .val (.int p4), .val (.int (3 : Int32)), .val (.int (0 : Int32)), .val (.int (3 : Int32)), .val (.ref tl), .val (.ref a8), .val (.ref dc), .unset, .unset, .unset, .unset]) rfl ?_
        exact kt
      have EK := oE K0
      have O0 : OldE Z T99.heap := O0.ext EK
      have hk := Nat.le_trans hk EK.1
      have R0 := R0.trans (CHr.ext EK R0.1)
      obtain ⟨pp, T102, h102, k102, b102, c102, X102, e102, E102, hS102, hk102, hZ102, hown102, EX102, CO102, VA102, AR102, -, -, CR102, LI102, NE102, st102⟩ := ldcCH X99 hx hZ hown (wi hw 23 rfl) hstr rfl hS hk hEL (by simp [own_EL]) R0.1 (vs := ((([(109 : Int32), (97 : Int32), (108 : Int32), (102 : Int32), (111 : Int32), (114 : Int32), (109 : Int32), (101 : Int32), (100 : Int32), (32 : Int32), (115 : Int32), (116 : Int32), (97 : Int32), (116 : Int32), (101 : Int32), (58 : Int32), (32 : Int32)] : List Int32).map (fun c => c.toInt8.toInt32)).map Value.int)) (z := (17 : Int32)) (own_text_pp : _ ∧ _) (by decide) rfl (g := (mkF m 157 #[.val (.int p1), .val (.int p2), .val (.int p3), .val (.int p4), .val (.int (3 : Int32)), .val (.int (0 : Int32)), .val (.int (3 : Int32)), .val (.ref tl), .val (.ref a8), .val (.ref dc), .unset, .unset, .unset, .unset] [])) rfl (hb hby at_157) (n := 68) (by decide +kernel) (by decide) (by decide) (by decide)
      have V_tl := V_tl.ext E102
      have B_8 := B_8.ext E102
      have O0 := O0.ext E102
      have Z0 := Nat.le_trans Z0 E102.1
      have R0 := R0.trans CR102
      have go103 : Go p e below T102 (mkF m 159 #[.val (.int p1), .val (.int p2), .val (.int p3), .val (.int p4), .val (.int (3 : Int32)), .val (.int (0 : Int32)), .val (.int (3 : Int32)), .val (.ref tl), .val (.ref a8), .val (.ref dc), .unset, .unset, .unset, .unset] [(.ref pp)]) S0 := fun t kt => go101 t (st102 _ kt)
      have L_pp : Str Z h102 pp [(109 : Int32), (97 : Int32), (108 : Int32), (102 : Int32), (111 : Int32), (114 : Int32), (109 : Int32), (101 : Int32), (100 : Int32), (32 : Int32), (115 : Int32), (116 : Int32), (97 : Int32), (116 : Int32), (101 : Int32), (58 : Int32), (32 : Int32)] := ⟨b102, c102, EX102, CO102, VA102, AR102, by decide, by decide⟩
      have B_pp : Bs Z h102 pp (0 : Int32) own_PB := ⟨b102, c102, EX102, CO102, VA102, by rw [own_PBl]; exact oA AR102 own_PBe⟩
      have go104 : Go p e below T102 (mkF m 161 #[.val (.int p1), .val (.int p2), .val (.int p3), .val (.int p4), .val (.int (3 : Int32)), .val (.int (0 : Int32)), .val (.int (3 : Int32)), .val (.ref tl), .val (.ref a8), .val (.ref pp), .unset, .unset, .unset, .unset] []) S0 := by
        intro tt kt
        refine go103 tt ?_
        refine XS.astore X102.here hx rfl (hb hby at_159) rfl rfl (l' := #[.val (.int p1), .val (.int p2), .val (.int p3), .val (.int p4), .val (.int (3 : Int32)), .val (.int (0 : Int32)), .val (.int (3 : Int32)), .val (.ref tl), .val (.ref a8), .val (.ref pp), .unset, .unset, .unset, .unset]) rfl ?_
        exact kt
      obtain ⟨T105, h105, L105, ex, kx, X105, e105, N105, E105, V_ex, st105⟩ := own_mid (n := 3) (z0 := .val (.int p1)) (z1 := .val (.int p2)) (z2 := .val (.int p3)) (z3 := .val (.int p4)) (z4 := .val (.int (3 : Int32))) (z5 := .val (.int (0 : Int32))) (z8 := .val (.ref a8)) hw X102 hx hZ102 hown102 hml e102 Z0 N99 (by decide) (by decide) O0 S_CS P5 S_SI rf hn0 hby B_pp V_tl (by omega)
      have go106 : Go p e below T105 (mkF m 421 #[.val (.int p1), .val (.int p2), .val (.int p3), .val (.int p4), .val (.int (3 : Int32)), .val (.int (0 : Int32)), .val (.int (Int32.ofNat 3)), .val (.ref tl), .val (.ref a8), .val (.ref pp), .val (.ref ex), .unset, .unset, .unset] []) S0 := fun t kt => go104 t (st105 t kt)
      have O0 : OldE Z h105 := O0.ext E105
      have B_pp := B_pp.ext E105
      have hk102 := Nat.le_trans hk102 E105.1
      have Z0 := Nat.le_trans Z0 E105.1
      have R0 := R0.trans (CHr.ext E105 R0.1)
      have B_8 := B_8.ext E105
      obtain ⟨s2, o2, st2, r1, r2, v2, L2, r3, ⟨rfl, r4⟩, r5⟩ := own_tailR (cs := [nar .char (nar .char (own_t p2)), nar .char (nar .char (own_t p3)), nar .char (nar .char (own_t p4))]) (z0 := .val (.int p1)) (z1 := .val (.int p2)) (z2 := .val (.int p3)) (z3 := .val (.int p4)) (z4 := .val (.int (3 : Int32))) (z5 := .val (.int (0 : Int32))) (z6 := .val (.int (Int32.ofNat 3))) (z7 := .val (.ref tl)) hw hEL X105 hx hZ102 hown102 hby hml Bd.returns Bd.notSynchronized e105 hS102 hk102 R0 Z0 N105 O0 hn0 S_CS P5 S_AD S_HI S_LO S_SI rf S_UN S_SP hl hTK hBelow (by decide) (by decide) B_pp V_ex (own_chcat (fun c hc => by simp only [List.mem_cons, List.not_mem_nil, or_false] at hc; rcases hc with rfl | rfl | rfl <;> exact ⟨_, rfl⟩)) B_8 (Nat.le_of_ble_eq_true rfl)
      exact ⟨s2, o2, go106 _ st2, r1, r2, _, L2, r3, ⟨rfl, r4⟩, r5⟩
  · have go107 : Go p e below s₁ (mkF m 33 #[.val (.int p1), .val (.int p2), .val (.int p3), .val (.int p4), .val (.int (p1 &&& (7 : Int32))), .val (.int (1 : Int32)), .val (.int (4 : Int32)), .unset, .unset, .unset, .unset, .unset, .unset, .unset] [(.int (4 : Int32))]) S0 := by
      intro tt kt
      refine go1 tt ?_
      refine XS.icmpNo X0.here hx rfl (hb hby at_9) rfl (flt h4).1 ?_
      refine XS.iconst X0.here hx rfl (hb hby at_12) ?_
      refine XS.goto X0.here hx rfl (pc0 := 13) (pc' := 17) rfl (hb hby at_13) (by decide) (by decide) ?_
      refine XS.istore X0.here hx rfl (hb hby at_17) rfl (l' := #[.val (.int p1), .val (.int p2), .val (.int p3), .val (.int p4), .val (.int (p1 &&& (7 : Int32))), .val (.int (1 : Int32)), .unset, .unset, .unset, .unset, .unset, .unset, .unset, .unset]) rfl ?_
      refine XS.iload X0.here hx rfl (hb hby at_19) rfl ?_
      refine XS.ifNo X0.here hx rfl (hb hby at_21) rfl ((if0 _ _).trans (feq (by decide)).1) ?_
      refine XS.iconst X0.here hx rfl (hb hby at_24) ?_
      refine XS.goto X0.here hx rfl (pc0 := 25) (pc' := 30) rfl (hb hby at_25) (by decide) (by decide) ?_
      refine XS.istore X0.here hx rfl (hb hby at_30) rfl (l' := #[.val (.int p1), .val (.int p2), .val (.int p3), .val (.int p4), .val (.int (p1 &&& (7 : Int32))), .val (.int (1 : Int32)), .val (.int (4 : Int32)), .unset, .unset, .unset, .unset, .unset, .unset, .unset]) rfl ?_
      refine XS.iconst X0.here hx rfl (hb hby at_32) ?_
      exact kt
    obtain ⟨T108, h108, k108, X108, e108, E108, A108, st108⟩ := newP X0 hx hZ (wi hw 0 rfl) e0 (g := (mkF m 33 #[.val (.int p1), .val (.int p2), .val (.int p3), .val (.int p4), .val (.int (p1 &&& (7 : Int32))), .val (.int (1 : Int32)), .val (.int (4 : Int32)), .unset, .unset, .unset, .unset, .unset, .unset, .unset] [(.int (4 : Int32))])) rfl (hb hby at_33) rfl (by decide) (cap := 4) (by decide) (by decide) (by decide) (by decide)
    obtain ⟨tl, g108⟩ : ∃ z, z = h0.size := ⟨_, rfl⟩
    rw [← g108] at A108 st108
    have g_tl : n0 ≤ tl := Nat.le_trans Z0 (Nat.le_of_eq g108.symm)
    have sz_tl : h0.size ≤ tl := Nat.le_trans K0.1 (Nat.le_of_eq g108.symm)
    have Z0 := Nat.le_trans Z0 E108.1
    have K0 := K0.ext E108
    have go109 : Go p e below T108 (mkF m 35 #[.val (.int p1), .val (.int p2), .val (.int p3), .val (.int p4), .val (.int (p1 &&& (7 : Int32))), .val (.int (1 : Int32)), .val (.int (4 : Int32)), .unset, .unset, .unset, .unset, .unset, .unset, .unset] [(.ref tl)]) S0 := fun t kt => go107 t (st108 _ kt)
    have V_tl : Arv Z h108 tl k108 .char (4 : Int32) [(.int (0 : Int32)), (.int (0 : Int32)), (.int (0 : Int32)), (.int (0 : Int32))] (.int (0 : Int32)) := (Arv.new A108 (by decide)).pad (pad_rep [] (.int (0 : Int32)) 4)
    have go110 : Go p e below T108 (mkF m 50 #[.val (.int p1), .val (.int p2), .val (.int p3), .val (.int p4), .val (.int (p1 &&& (7 : Int32))), .val (.int (1 : Int32)), .val (.int (4 : Int32)), .val (.ref tl), .val .null, .unset, .unset, .unset, .unset, .unset] [(.int (110 : Int32)), (.int (0 : Int32)), (.ref tl)]) S0 := by
      intro tt kt
      refine go109 tt ?_
      refine XS.astore X108.here hx rfl (hb hby at_35) rfl rfl (l' := #[.val (.int p1), .val (.int p2), .val (.int p3), .val (.int p4), .val (.int (p1 &&& (7 : Int32))), .val (.int (1 : Int32)), .val (.int (4 : Int32)), .val (.ref tl), .unset, .unset, .unset, .unset, .unset, .unset]) rfl ?_
      refine XS.aconstNull X108.here hx rfl (hb hby at_37) ?_
      refine XS.astore X108.here hx rfl (hb hby at_38) rfl rfl (l' := #[.val (.int p1), .val (.int p2), .val (.int p3), .val (.int p4), .val (.int (p1 &&& (7 : Int32))), .val (.int (1 : Int32)), .val (.int (4 : Int32)), .val (.ref tl), .val .null, .unset, .unset, .unset, .unset, .unset]) rfl ?_
      refine XS.iload X108.here hx rfl (hb hby at_40) rfl ?_
      refine XS.ifNo X108.here hx rfl (hb hby at_42) rfl ((if0 _ _).trans (feq (by decide)).1) ?_
      refine XS.aload X108.here hx rfl (hb hby at_45) rfl rfl ?_
      refine XS.iconst X108.here hx rfl (hb hby at_47) ?_
      refine XS.bipush X108.here hx rfl (hb hby at_48) ?_
      exact kt
    obtain ⟨cl111, Ar111, q111, S111, N111, H111, G111⟩ := V_tl
    obtain ⟨T111, h111, X111, e111, W111, st111⟩ := stC X108 hx hZ e108 Ar111 (j := (0 : Int32)) (inb_of S111 ⟨by decide, by decide⟩) (g := (mkF m 50 #[.val (.int p1), .val (.int p2), .val (.int p3), .val (.int p4), .val (.int (p1 &&& (7 : Int32))), .val (.int (1 : Int32)), .val (.int (4 : Int32)), .val (.ref tl), .val .null, .unset, .unset, .unset, .unset, .unset] [(.int (110 : Int32)), (.int (0 : Int32)), (.ref tl)])) rfl rfl (hb hby at_50)
    have V_tl : Arv Z h111 tl k108 .char (4 : Int32) [(.int (110 : Int32)), (.int (0 : Int32)), (.int (0 : Int32)), (.int (0 : Int32))] (.int (0 : Int32)) := Arv.set Ar111 q111 S111 N111 H111 G111 (fits_nar_char _) W111 0 rfl (Nat.le_of_ble_eq_true rfl)
    have Z0 := Nat.le_trans Z0 (Keep.of_wr W111).1
    have K0 := K0.wr W111 (Or.inr sz_tl)
    have N111r := Fr.snoc X111 N0 g_tl
    have go112 : Go p e below T111 (mkF m 51 #[.val (.int p1), .val (.int p2), .val (.int p3), .val (.int p4), .val (.int (p1 &&& (7 : Int32))), .val (.int (1 : Int32)), .val (.int (4 : Int32)), .val (.ref tl), .val .null, .unset, .unset, .unset, .unset, .unset] []) S0 := fun t kt => go110 t (st111 _ kt)
    have go113 : Go p e below T111 (mkF m 56 #[.val (.int p1), .val (.int p2), .val (.int p3), .val (.int p4), .val (.int (p1 &&& (7 : Int32))), .val (.int (1 : Int32)), .val (.int (4 : Int32)), .val (.ref tl), .val .null, .unset, .unset, .unset, .unset, .unset] [(.int (117 : Int32)), (.int (1 : Int32)), (.ref tl)]) S0 := by
      intro tt kt
      refine go112 tt ?_
      refine XS.aload X111.here hx rfl (hb hby at_51) rfl rfl ?_
      refine XS.iconst X111.here hx rfl (hb hby at_53) ?_
      refine XS.bipush X111.here hx rfl (hb hby at_54) ?_
      exact kt
    obtain ⟨cl114, Ar114, q114, S114, N114, H114, G114⟩ := V_tl
    obtain ⟨T114, h114, X114, e114, W114, st114⟩ := stC X111 hx hZ e111 Ar114 (j := (1 : Int32)) (inb_of S114 ⟨by decide, by decide⟩) (g := (mkF m 56 #[.val (.int p1), .val (.int p2), .val (.int p3), .val (.int p4), .val (.int (p1 &&& (7 : Int32))), .val (.int (1 : Int32)), .val (.int (4 : Int32)), .val (.ref tl), .val .null, .unset, .unset, .unset, .unset, .unset] [(.int (117 : Int32)), (.int (1 : Int32)), (.ref tl)])) rfl rfl (hb hby at_56)
    have V_tl : Arv Z h114 tl k108 .char (4 : Int32) [(.int (110 : Int32)), (.int (117 : Int32)), (.int (0 : Int32)), (.int (0 : Int32))] (.int (0 : Int32)) := Arv.set Ar114 q114 S114 N114 H114 G114 (fits_nar_char _) W114 1 rfl (Nat.le_of_ble_eq_true rfl)
    have Z0 := Nat.le_trans Z0 (Keep.of_wr W114).1
    have K0 := K0.wr W114 (Or.inr sz_tl)
    have N114r := Fr.snoc X114 N111r g_tl
    have go115 : Go p e below T114 (mkF m 57 #[.val (.int p1), .val (.int p2), .val (.int p3), .val (.int p4), .val (.int (p1 &&& (7 : Int32))), .val (.int (1 : Int32)), .val (.int (4 : Int32)), .val (.ref tl), .val .null, .unset, .unset, .unset, .unset, .unset] []) S0 := fun t kt => go113 t (st114 _ kt)
    have go116 : Go p e below T114 (mkF m 62 #[.val (.int p1), .val (.int p2), .val (.int p3), .val (.int p4), .val (.int (p1 &&& (7 : Int32))), .val (.int (1 : Int32)), .val (.int (4 : Int32)), .val (.ref tl), .val .null, .unset, .unset, .unset, .unset, .unset] [(.int (108 : Int32)), (.int (2 : Int32)), (.ref tl)]) S0 := by
      intro tt kt
      refine go115 tt ?_
      refine XS.aload X114.here hx rfl (hb hby at_57) rfl rfl ?_
      refine XS.iconst X114.here hx rfl (hb hby at_59) ?_
      refine XS.bipush X114.here hx rfl (hb hby at_60) ?_
      exact kt
    obtain ⟨cl117, Ar117, q117, S117, N117, H117, G117⟩ := V_tl
    obtain ⟨T117, h117, X117, e117, W117, st117⟩ := stC X114 hx hZ e114 Ar117 (j := (2 : Int32)) (inb_of S117 ⟨by decide, by decide⟩) (g := (mkF m 62 #[.val (.int p1), .val (.int p2), .val (.int p3), .val (.int p4), .val (.int (p1 &&& (7 : Int32))), .val (.int (1 : Int32)), .val (.int (4 : Int32)), .val (.ref tl), .val .null, .unset, .unset, .unset, .unset, .unset] [(.int (108 : Int32)), (.int (2 : Int32)), (.ref tl)])) rfl rfl (hb hby at_62)
    have V_tl : Arv Z h117 tl k108 .char (4 : Int32) [(.int (110 : Int32)), (.int (117 : Int32)), (.int (108 : Int32)), (.int (0 : Int32))] (.int (0 : Int32)) := Arv.set Ar117 q117 S117 N117 H117 G117 (fits_nar_char _) W117 2 rfl (Nat.le_of_ble_eq_true rfl)
    have Z0 := Nat.le_trans Z0 (Keep.of_wr W117).1
    have K0 := K0.wr W117 (Or.inr sz_tl)
    have N117r := Fr.snoc X117 N114r g_tl
    have go118 : Go p e below T117 (mkF m 63 #[.val (.int p1), .val (.int p2), .val (.int p3), .val (.int p4), .val (.int (p1 &&& (7 : Int32))), .val (.int (1 : Int32)), .val (.int (4 : Int32)), .val (.ref tl), .val .null, .unset, .unset, .unset, .unset, .unset] []) S0 := fun t kt => go116 t (st117 _ kt)
    have go119 : Go p e below T117 (mkF m 68 #[.val (.int p1), .val (.int p2), .val (.int p3), .val (.int p4), .val (.int (p1 &&& (7 : Int32))), .val (.int (1 : Int32)), .val (.int (4 : Int32)), .val (.ref tl), .val .null, .unset, .unset, .unset, .unset, .unset] [(.int (108 : Int32)), (.int (3 : Int32)), (.ref tl)]) S0 := by
      intro tt kt
      refine go118 tt ?_
      refine XS.aload X117.here hx rfl (hb hby at_63) rfl rfl ?_
      refine XS.iconst X117.here hx rfl (hb hby at_65) ?_
      refine XS.bipush X117.here hx rfl (hb hby at_66) ?_
      exact kt
    obtain ⟨cl120, Ar120, q120, S120, N120, H120, G120⟩ := V_tl
    obtain ⟨T120, h120, X120, e120, W120, st120⟩ := stC X117 hx hZ e117 Ar120 (j := (3 : Int32)) (inb_of S120 ⟨by decide, by decide⟩) (g := (mkF m 68 #[.val (.int p1), .val (.int p2), .val (.int p3), .val (.int p4), .val (.int (p1 &&& (7 : Int32))), .val (.int (1 : Int32)), .val (.int (4 : Int32)), .val (.ref tl), .val .null, .unset, .unset, .unset, .unset, .unset] [(.int (108 : Int32)), (.int (3 : Int32)), (.ref tl)])) rfl rfl (hb hby at_68)
    have V_tl : Arv Z h120 tl k108 .char (4 : Int32) [(.int (110 : Int32)), (.int (117 : Int32)), (.int (108 : Int32)), (.int (108 : Int32))] (.int (0 : Int32)) := Arv.set Ar120 q120 S120 N120 H120 G120 (fits_nar_char _) W120 3 rfl (Nat.le_of_ble_eq_true rfl)
    have Z0 := Nat.le_trans Z0 (Keep.of_wr W120).1
    have K0 := K0.wr W120 (Or.inr sz_tl)
    have N120r := Fr.snoc X120 N117r g_tl
    have go121 : Go p e below T120 (mkF m 69 #[.val (.int p1), .val (.int p2), .val (.int p3), .val (.int p4), .val (.int (p1 &&& (7 : Int32))), .val (.int (1 : Int32)), .val (.int (4 : Int32)), .val (.ref tl), .val .null, .unset, .unset, .unset, .unset, .unset] []) S0 := fun t kt => go119 t (st120 _ kt)
    have go122 : Go p e below T120 (mkF m 157 #[.val (.int p1), .val (.int p2), .val (.int p3), .val (.int p4), .val (.int (p1 &&& (7 : Int32))), .val (.int (1 : Int32)), .val (.int (4 : Int32)), .val (.ref tl), .val .null, .unset, .unset, .unset, .unset, .unset] []) S0 := by
      intro tt kt
      refine go121 tt ?_
      refine XS.goto X120.here hx rfl (pc0 := 69) (pc' := 157) rfl (hb hby at_69) (by decide) (by decide) ?_
      exact kt
    have EK := oE K0
    have O0 : OldE Z h120 := O0.ext EK
    have hk := Nat.le_trans hk EK.1
    have R0 := R0.trans (CHr.ext EK R0.1)
    obtain ⟨pp, T123, h123, k123, b123, c123, X123, e123, E123, hS123, hk123, hZ123, hown123, EX123, CO123, VA123, AR123, -, -, CR123, LI123, NE123, st123⟩ := ldcCH X120 hx hZ hown (wi hw 23 rfl) hstr e120 hS hk hEL (by simp [own_EL]) R0.1 (vs := ((([(109 : Int32), (97 : Int32), (108 : Int32), (102 : Int32), (111 : Int32), (114 : Int32), (109 : Int32), (101 : Int32), (100 : Int32), (32 : Int32), (115 : Int32), (116 : Int32), (97 : Int32), (116 : Int32), (101 : Int32), (58 : Int32), (32 : Int32)] : List Int32).map (fun c => c.toInt8.toInt32)).map Value.int)) (z := (17 : Int32)) (own_text_pp : _ ∧ _) (by decide) rfl (g := (mkF m 157 #[.val (.int p1), .val (.int p2), .val (.int p3), .val (.int p4), .val (.int (p1 &&& (7 : Int32))), .val (.int (1 : Int32)), .val (.int (4 : Int32)), .val (.ref tl), .val .null, .unset, .unset, .unset, .unset, .unset] [])) rfl (hb hby at_157) (n := 68) (by decide +kernel) (by decide) (by decide) (by decide)
    have V_tl := V_tl.ext E123
    have O0 := O0.ext E123
    have Z0 := Nat.le_trans Z0 E123.1
    have R0 := R0.trans CR123
    have go124 : Go p e below T123 (mkF m 159 #[.val (.int p1), .val (.int p2), .val (.int p3), .val (.int p4), .val (.int (p1 &&& (7 : Int32))), .val (.int (1 : Int32)), .val (.int (4 : Int32)), .val (.ref tl), .val .null, .unset, .unset, .unset, .unset, .unset] [(.ref pp)]) S0 := fun t kt => go122 t (st123 _ kt)
    have L_pp : Str Z h123 pp [(109 : Int32), (97 : Int32), (108 : Int32), (102 : Int32), (111 : Int32), (114 : Int32), (109 : Int32), (101 : Int32), (100 : Int32), (32 : Int32), (115 : Int32), (116 : Int32), (97 : Int32), (116 : Int32), (101 : Int32), (58 : Int32), (32 : Int32)] := ⟨b123, c123, EX123, CO123, VA123, AR123, by decide, by decide⟩
    have B_pp : Bs Z h123 pp (0 : Int32) own_PB := ⟨b123, c123, EX123, CO123, VA123, by rw [own_PBl]; exact oA AR123 own_PBe⟩
    have go125 : Go p e below T123 (mkF m 161 #[.val (.int p1), .val (.int p2), .val (.int p3), .val (.int p4), .val (.int (p1 &&& (7 : Int32))), .val (.int (1 : Int32)), .val (.int (4 : Int32)), .val (.ref tl), .val .null, .val (.ref pp), .unset, .unset, .unset, .unset] []) S0 := by
      intro tt kt
      refine go124 tt ?_
      refine XS.astore X123.here hx rfl (hb hby at_159) rfl rfl (l' := #[.val (.int p1), .val (.int p2), .val (.int p3), .val (.int p4), .val (.int (p1 &&& (7 : Int32))), .val (.int (1 : Int32)), .val (.int (4 : Int32)), .val (.ref tl), .val .null, .val (.ref pp), .unset, .unset, .unset, .unset]) rfl ?_
      exact kt
    obtain ⟨T126, h126, L126, ex, kx, X126, e126, N126, E126, V_ex, st126⟩ := own_mid (n := 4) (z0 := .val (.int p1)) (z1 := .val (.int p2)) (z2 := .val (.int p3)) (z3 := .val (.int p4)) (z4 := .val (.int (p1 &&& (7 : Int32)))) (z5 := .val (.int (1 : Int32))) (z8 := .val .null) hw X123 hx hZ123 hown123 hml e123 Z0 N120r (by decide) (by decide) O0 S_CS P5 S_SI rf hn0 hby B_pp V_tl (by omega)
    have go127 : Go p e below T126 (mkF m 421 #[.val (.int p1), .val (.int p2), .val (.int p3), .val (.int p4), .val (.int (p1 &&& (7 : Int32))), .val (.int (1 : Int32)), .val (.int (Int32.ofNat 4)), .val (.ref tl), .val .null, .val (.ref pp), .val (.ref ex), .unset, .unset, .unset] []) S0 := fun t kt => go125 t (st126 t kt)
    have O0 : OldE Z h126 := O0.ext E126
    have B_pp := B_pp.ext E126
    have hk123 := Nat.le_trans hk123 E126.1
    have Z0 := Nat.le_trans Z0 E126.1
    have R0 := R0.trans (CHr.ext E126 R0.1)
    obtain ⟨s2, o2, st2, r1, r2, v2, L2, r3, ⟨rfl, r4⟩, r5⟩ := own_tailN (z0 := .val (.int p1)) (z1 := .val (.int p2)) (z2 := .val (.int p3)) (z3 := .val (.int p4)) (z4 := .val (.int (p1 &&& (7 : Int32)))) (z5 := .val (.int (1 : Int32))) (z6 := .val (.int (Int32.ofNat 4))) (z7 := .val (.ref tl)) hw hEL X126 hx hZ123 hown123 hby hml Bd.returns Bd.notSynchronized e126 hS123 hk123 R0 Z0 N126 O0 hn0 S_CS P5 S_AD S_HI S_LO S_SI rf S_UN S_SP hl hTK hBelow (by decide) (by decide) B_pp V_ex (by decide +kernel)
    exact ⟨s2, o2, go127 _ st2, r1, r2, _, L2, r3, ⟨rfl, r4⟩, r5⟩
theorem own_eq_i {args : Array Value} {s : State} {t : Term} {z : Int32} (h : (Cond.eq t (Term.int z)).value args s none s [] = some true) : t.eval args s none [] s = some (.int z) := by
  simp only [Cond.value, Term.eval] at h
  cases ht : t.eval args s none [] s with
  | none => simp [ht] at h
  | some x => cases x <;> simp_all
theorem own_ref {args : Array Value} {s : State} {t : Term} (h : (Cond.isRef t).value args s none s [] = some true) : ∃ v, t.eval args s none [] s = some v ∧ v.isRef = true := by
  cases ht : t.eval args s none [] s with
  | none => simp [Cond.value, ht] at h
  | some x => exact ⟨x, rfl, by cases x <;> first | rfl | (simp [Cond.value, ht] at h)⟩
theorem comes_1 {Post : Tables → Env → Array Value → State → Outcome → State → Prop} (hpost : ∀ tb e args s v u, (limb_1_1.after args s (.returned v) u = true ∧ limb_1_2.after args s (.returned v) u = true ∧ True) → ReturnedEndW s (.returned v) u (Jvm.fieldLocs frame_1_writes args s ++ Jvm.arrayLocs frame_1_arrays args s ++ Jvm.staticLocs frame_1_statics s) 48 9216 → Post tb e args s (.returned v) u) :
    ArmFor flags0 classFile x code maxLocals ret World_1 tables_1 room_1 Calls_1 rest_1 Pre_1 Post := by
  intro l hfl _ _ p e ha hc hk s m args below hf hA hF happ hP
  obtain ⟨hcalls, hrest, hpre⟩ := hP
  obtain ⟨-, -, -, hnamed, -, -, -, hat⟩ := (Spec.applies_iff hf).mp happ
  obtain ⟨hg, hn⟩ := and_e (Cond.before_iff.mp (show (Jvm.Cond.and given_1 narrow_1).before args s = true from hpre))
  obtain ⟨g1, g2⟩ := and_e hg
  obtain ⟨q0, g4⟩ := and_e g2
  obtain ⟨q1, g6⟩ := and_e g4
  obtain ⟨q2, q3⟩ := and_e g6
  obtain ⟨w0, w1, w2, w3, rfl⟩ : ∃ w0 w1 w2 w3 : Value, args = #[w0, w1, w2, w3] := by
    have hs : args.size = 4 := by simpa [Cond.value, given_1] using g1
    obtain ⟨L⟩ := args
    match L, hs with
    | [w0, w1, w2, w3], _ => exact ⟨w0, w1, w2, w3, rfl⟩
  have hw := fun d (hd : d ∈ tables_1) => atoms_spec (ws := Jvm.Cond.code x code maxLocals ret :: tables_1) hat d (List.mem_cons_of_mem _ hd)
  obtain ⟨hsets, hown0⟩ := atoms_of _ (rest_1_c_eq ▸ (show rest_1_c.before _ s = true from hrest))
  have c0 := not_v (Cond.before_iff.mp (hsets _ (List.mem_of_getElem? (i := 2) rfl)))
  obtain ⟨i0, ei0⟩ := is_v q0
  obtain rfl : w0 = (.int i0) := Option.some.inj ei0
  obtain ⟨i1, ei1⟩ := is_v q1
  obtain rfl : w1 = (.int i1) := Option.some.inj ei1
  obtain ⟨i2, ei2⟩ := is_v q2
  obtain rfl : w2 = (.int i2) := Option.some.inj ei2
  obtain ⟨i3, ei3⟩ := is_v q3
  obtain rfl : w3 = (.int i3) := Option.some.inj ei3
  obtain ⟨zc, ezc⟩ := is_v (Cond.before_iff.mp (hsets _ (List.mem_of_getElem? (i := 1) rfl)))
  have S_CS : Sta s s.heap "java/lang/String" "COMPACT_STRINGS" "Z" (.int zc) := Sta.start ezc (Or.inl (hsets _ (List.mem_of_getElem? (i := 0) rfl)))
  have P5 : ¬ (zc = (0 : Int32)) := gotF (Cond.eq_ints ezc (Term.int_eval (0))) c0
  obtain ⟨fm, efm, rf⟩ := own_ref (Cond.before_iff.mp (hsets _ (List.mem_of_getElem? (i := 8) rfl)))
  obtain ⟨ua, eua⟩ := arr_v (Cond.before_iff.mp (hsets _ (List.mem_of_getElem? (i := 17) rfl)))
  obtain ⟨sa, esa⟩ := exa_v (Cond.before_iff.mp (hsets _ (List.mem_of_getElem? (i := 22) rfl)))
  have hEL : EW s _ own_EL := (EW.cons (wi hw 82 rfl) own_text_pp.1 (EW.cons (wi hw 23 rfl) own_text_pp.1 (EW.cons (wi hw 15 rfl) own_text_e1.1 EW.nil)))
  have hheld : ∀ p ∈ own_EL, Jvm.Lit.constHeld s p.1 p.2 := fun p hp => (hcalls.2.2.1 : Jvm.D.constsHeld consts_1 s) p (by simp only [own_EL, List.mem_cons, List.not_mem_nil, or_false] at hp; rcases hp with rfl | rfl | rfl <;> simp [consts_1])
  have CH := CHv.start hEL hheld (hsets _ (List.mem_of_getElem? (i := 2) rfl)) (wi hw 16 rfl) (wi hw 3 rfl)
  have hl : l.stackTraces = true := by rw [Launch.stackTraces, hfl]; decide
  obtain ⟨n, o, h1, h2, h3, _, L, rfl, ⟨rfl, N⟩, hq⟩ := rm0 l s _ hw tables_1 i0 i1 i2 i3 zc fm ua sa s.heap s.heap.size (Nat.le_refl _) hEL (⟨Nat.le_refl _, fun _ _ h => h⟩ : Ext s.heap s.heap) (Nat.le_refl _) S_CS P5 (Sta.start (own_eq_i (Cond.before_iff.mp (hsets _ (List.mem_of_getElem? (i := 32) rfl)))) (Or.inl (hsets _ (List.mem_of_getElem? (i := 31) rfl)))) (Sta.start (own_eq_i (Cond.before_iff.mp (hsets _ (List.mem_of_getElem? (i := 35) rfl)))) (Or.inl (hsets _ (List.mem_of_getElem? (i := 34) rfl)))) (Sta.start (own_eq_i (Cond.before_iff.mp (hsets _ (List.mem_of_getElem? (i := 38) rfl)))) (Or.inl (hsets _ (List.mem_of_getElem? (i := 37) rfl)))) (Sta.start efm (Or.inl (hsets _ (List.mem_of_getElem? (i := 7) rfl)))) rf (Sta.start eua (Or.inl (hsets _ (List.mem_of_getElem? (i := 15) rfl)))) (Sta.start esa (Or.inl (hsets _ (List.mem_of_getElem? (i := 20) rfl)))) hl p e ha hc hk s m _ below hf ((Spec.applies_iff_loose hf).mp happ).1 ⟨rfl, State.Warmed39.refl s, rfl, CH⟩ ⟨hcalls.1, hcalls.2.1⟩
  refine ⟨n, _, h1, h2, h3, hpost _ _ _ _ _ _ ⟨Cond.after_iff.mpr rfl, Cond.after_iff.mpr (eq_i res_at (Term.int_eval (1)) rfl), trivial⟩ ⟨hq.1, hq.2.1, hq.2.2.1, (hq.2.2.2.sift fun y hy => Or.inr (N y hy)).mono (by decide) (by decide)⟩⟩
theorem main_1_1 : Claimed_1_1 := comes_1 fun _ _ _ _ _ _ h hF => ⟨h.1, hF⟩
theorem main_1_2 : Claimed_1_2 := comes_1 fun _ _ _ _ _ _ h hF => ⟨h.2.1, hF⟩
end Jvm.Pilot.@@N@@
namespace Jvm.Pilot.@@N@@
open Jvm Jvm.ClassFile Sem Op Lib Jvm.Free Jvm.Stand Jvm.Pilot.@@N@@.Jvm.D
/-! MADE BY PROGRAM (witnessworld.py) out of the Statement's table words and the real class files: 43 classes; the members and pool entries that the words name. The judged class is class 1, her method 1. -/
namespace start1
open Jvm.ClassFile
def u (s : String) : CpInfo := .utf8 (stringToUtf16 s)
/-- a pool by its gaps: so many unusable entries, then the entry; so many at the end -/
def gap : Nat → List CpInfo → List CpInfo
  | 0, r => r
  | n + 1, r => .unusable :: gap n r
def poolList (es : List (Nat × CpInfo)) (last : Nat) : List CpInfo := es.foldr (fun e r => gap e.1 (e.2 :: r)) (gap last [])
def pool (es : List (Nat × CpInfo)) (last : Nat) : Array CpInfo := ⟨poolList es last⟩
def fileOf (pool : Array CpInfo) (this : Nat) (attrs : Array Attribute := #[]) (ms : Array MethodInfo := #[]) (fl : Nat := 33) (sup : Nat := 0) (ifs : Array Nat := #[]) (fds : Array FieldInfo := #[]) : ClassFile where
  minorVersion := 0
  majorVersion := 65
  constantPool := pool
  accessFlags := fl
  thisClass := this
  superClass := sup
  interfaces := ifs
  fields := fds
  methods := ms
  attributes := attrs
def plain (name : String) (sup : Option ClassId) : Class where
  name := name
  kind := .ordinary
  loader := none
  accessFlags := 33
  super := sup
  interfaces := #[]
  cf := none
  fields := #[]
  methods := #[]
  instanceTypes := #[]
  staticTypes := #[]
  resolved := #[]
  callSites := []
  init := .initialized
  statics := none
  mirror := none

def pool0 : Array CpInfo := pool [(5, u "<init>"), (0, u "()V"), (1, .class_ 10), (1, u "java/lang/Object")] 113

def k0c0 : Code := { maxStack := 0, maxLocals := 1, code := object_method_1_code, exceptionTable := #[], attributes := #[] }
def k0m0 : Method := { name := "<init>", desc := "()V", sig := { parameters := [], returnType := none }, accessFlags := 1, code := some k0c0 }
/-- java/lang/Object -/
def k0 : Class := { plain "java/lang/Object" none with
  accessFlags := 33
  interfaces := #[]
  cf := some (fileOf pool0 8 #[] #[{ accessFlags := 1, nameIndex := 5, descriptorIndex := 6, attributes := #[] }] 33 0 #[] #[])
  fields := #[]
  methods := #[k0m0]
  instanceTypes := #[]
  staticTypes := #[]
  resolved := Array.replicate 124 none
  statics := none }

def pool1 : Array CpInfo := pool [(2, .class_ 4), (1, u "java/lang/Object"), (0, u "<init>"), (0, u "()V"), (0, .integer 65535), (0, .class_ 9), (0, u "java/lang/String"), (0, .methodref 8 11), (0, .nameAndType 5 12), (0, u "([C)V"), (0, .string 14), (0, u "malformed state: "), (0, .methodref 8 16), (0, .nameAndType 17 18), (0, u "charAt"), (0, u "(I)C"), (0, .methodref 20 21), (0, .class_ 22), (0, .nameAndType 23 24), (0, u "com/example/ceresio/ceresio/StateFormat"), (0, u "malformed"), (0, u "(Ljava/lang/String;)Ljava/lang/IllegalArgumentException;"), (0, .methodref 26 27), (0, .class_ 28), (0, .nameAndType 29 30), (0, u "java/lang/IllegalArgumentException"), (0, u "getMessage"), (0, u "()Ljava/lang/String;"), (0, .methodref 8 32), (0, .nameAndType 33 34), (0, u "length"), (0, u "()I"), (0, .methodref 8 36), (0, .nameAndType 37 38), (0, u "equals"), (0, u "(Ljava/lang/Object;)Z"), (0, .methodref 26 40), (0, .nameAndType 41 42), (0, u "getCause"), (0, u "()Ljava/lang/Throwable;"), (0, .class_ 44), (0, u "com/example/ceresio/ceresio/StateFormatMalformedPinLaw"), (2, u "law"), (0, u "(IIII)Z")] 5

def k1m0 : Method := { name := "<init>", desc := "()V", sig := { parameters := [], returnType := none }, accessFlags := 2, code := none }
def k1c1 : Code := { maxStack := 4, maxLocals := 14, code := code, exceptionTable := #[], attributes := #[] }
def k1m1 : Method := { name := "law", desc := "(IIII)Z", sig := { parameters := [.int, .int, .int, .int], returnType := some .boolean }, accessFlags := 9, code := some k1c1 }
/-- com/example/ceresio/ceresio/StateFormatMalformedPinLaw -/
def k1 : Class := { plain "com/example/ceresio/ceresio/StateFormatMalformedPinLaw" (some 0) with
  accessFlags := 49
  interfaces := #[]
  cf := some (fileOf pool1 43 #[] #[{ accessFlags := 2, nameIndex := 5, descriptorIndex := 6, attributes := #[] }, { accessFlags := 9, nameIndex := 47, descriptorIndex := 48, attributes := #[] }] 49 2 #[] #[])
  fields := #[]
  methods := #[k1m0, k1m1]
  instanceTypes := #[]
  staticTypes := #[]
  resolved := Array.replicate 54 none
  statics := none }

def pool2 : Array CpInfo := pool [(1, .class_ 2), (0, u "java/io/Serializable"), (0, .class_ 4), (0, u "java/lang/Object")] 2

/-- java/io/Serializable -/
def k2 : Class := { plain "java/io/Serializable" (some 0) with
  accessFlags := 1537
  interfaces := #[]
  cf := some (fileOf pool2 1 #[] #[] 1537 3 #[] #[])
  fields := #[]
  methods := #[]
  instanceTypes := #[]
  staticTypes := #[]
  resolved := Array.replicate 7 none
  statics := none }

def pool3 : Array CpInfo := pool [(1, .class_ 2), (0, u "java/lang/Comparable"), (0, .class_ 4), (0, u "java/lang/Object")] 7

/-- java/lang/Comparable -/
def k3 : Class := { plain "java/lang/Comparable" (some 0) with
  accessFlags := 1537
  interfaces := #[]
  cf := some (fileOf pool3 1 #[] #[] 1537 3 #[] #[])
  fields := #[]
  methods := #[]
  instanceTypes := #[]
  staticTypes := #[]
  resolved := Array.replicate 12 none
  statics := none }

def pool4 : Array CpInfo := pool [(2, .class_ 4), (1, u "java/lang/CharSequence"), (42, .class_ 48), (0, u "java/lang/CharSequence$1CodePointIterator"), (10, .class_ 60), (0, u "java/lang/CharSequence$1CharIterator"), (5, .class_ 67), (0, u "java/lang/Object")] 63

/-- java/lang/CharSequence -/
def k4 : Class := { plain "java/lang/CharSequence" (some 0) with
  accessFlags := 1537
  interfaces := #[]
  cf := some (fileOf pool4 2 #[.nestMembers #[47, 59]] #[] 1537 66 #[] #[])
  fields := #[]
  methods := #[]
  instanceTypes := #[]
  staticTypes := #[]
  resolved := Array.replicate 131 none
  statics := none }

def pool5 : Array CpInfo := pool [(1, .class_ 2), (0, u "java/lang/constant/Constable"), (0, .class_ 4), (0, u "java/lang/Object")] 6

/-- java/lang/constant/Constable -/
def k5 : Class := { plain "java/lang/constant/Constable" (some 0) with
  accessFlags := 1537
  interfaces := #[]
  cf := some (fileOf pool5 1 #[] #[] 1537 3 #[] #[])
  fields := #[]
  methods := #[]
  instanceTypes := #[]
  staticTypes := #[]
  resolved := Array.replicate 11 none
  statics := none }

def pool6 : Array CpInfo := pool [(1, .class_ 2), (0, u "java/lang/constant/ConstantDesc"), (0, .class_ 4), (0, u "java/lang/Object")] 32

/-- java/lang/constant/ConstantDesc -/
def k6 : Class := { plain "java/lang/constant/ConstantDesc" (some 0) with
  accessFlags := 1537
  interfaces := #[]
  cf := some (fileOf pool6 1 #[] #[] 1537 3 #[] #[])
  fields := #[]
  methods := #[]
  instanceTypes := #[]
  staticTypes := #[]
  resolved := Array.replicate 37 none
  statics := none }

def pool7 : Array CpInfo := pool [(1, .methodref 2 3), (0, .class_ 4), (0, .nameAndType 5 6), (0, u "java/lang/Object"), (0, u "<init>"), (0, u "()V"), (0, .string 8), (0, u ""), (0, .fieldref 10 11), (0, .class_ 12), (0, .nameAndType 13 14), (0, u "java/lang/String"), (0, u "value"), (0, u "[B"), (0, .fieldref 10 16), (0, .nameAndType 17 18), (0, u "coder"), (0, u "B"), (2, u "hash"), (0, u "I"), (2, u "hashIsZero"), (0, u "Z"), (0, .methodref 10 28), (0, .nameAndType 5 29), (0, u "([CIILjava/lang/Void;)V"), (6, u "checkBoundsOffCount"), (0, u "(III)I"), (0, .fieldref 10 39), (0, .nameAndType 40 26), (0, u "COMPACT_STRINGS"), (1, .class_ 44), (1, u "java/lang/StringUTF16"), (0, u "compress"), (1, .methodref 42 48), (0, .nameAndType 49 50), (0, u "coderFromArrayLen"), (0, u "([BI)B"), (3, .methodref 55 56), (0, .class_ 57), (0, .nameAndType 58 59), (0, u "java/util/Arrays"), (0, u "copyOfRange"), (0, u "([BII)[B"), (47, .class_ 109), (1, u "java/lang/StringLatin1"), (32, u "()Z"), (34, .methodref 42 178), (0, .nameAndType 45 179), (0, u "([CII)[B"), (13, .class_ 195), (1, u "java/lang/System"), (16, .methodref 193 213), (0, .nameAndType 214 215), (0, u "arraycopy"), (0, u "(Ljava/lang/Object;ILjava/lang/Object;II)V"), (118, u "()I"), (0, .methodref 10 336), (0, .nameAndType 17 337), (0, u "()B"), (2, u "()[B"), (22, u "([BI)C"), (27, u "(II)V"), (35, u "(I)C"), (61, .methodref 10 490), (0, .nameAndType 5 491), (0, u "(Ljava/lang/AbstractStringBuilder;Ljava/lang/Void;)V"), (0, .methodref 10 493), (0, .nameAndType 494 142), (0, u "isLatin1"), (0, .methodref 107 496), (0, .nameAndType 497 363), (0, u "charAt"), (3, u "checkIndex"), (4, .nameAndType 507 334), (0, u "length"), (24, u "getBytes"), (8, .methodref 107 542), (0, .nameAndType 543 544), (0, u "equals"), (0, u "([B[B)Z"), (4, .methodref 550 506), (0, .class_ 551), (0, u "java/lang/AbstractStringBuilder"), (0, .methodref 550 553), (0, .nameAndType 554 340), (0, u "getValue"), (18, u "(Ljava/lang/Object;)Z"), (1, .class_ 576), (0, u "java/lang/CharSequence"), (22, u "CASE_INSENSITIVE_ORDER"), (0, u "Ljava/util/Comparator;"), (220, u "([BIB)V"), (188, u "([C)V"), (36, .methodref 550 493), (0, .fieldref 550 1049), (0, .nameAndType 1050 26), (0, u "maybeLatin1"), (2, .fieldref 1054 1055), (0, .class_ 1056), (0, .nameAndType 1057 1058), (0, u "jdk/internal/util/Preconditions"), (0, u "SIOOBE_FORMATTER"), (0, u "Ljava/util/function/BiFunction;"), (0, .methodref 1054 1060), (0, .nameAndType 501 1061), (0, u "(IILjava/util/function/BiFunction;)I"), (2, u "(IIILjava/util/function/BiFunction;)I"), (0, .methodref 1054 1066), (0, .nameAndType 1067 1064), (0, u "checkFromIndexSize"), (33, u "serialPersistentFields"), (0, u "[Ljava/io/ObjectStreamField;"), (0, .class_ 1104), (0, u "java/lang/String$CaseInsensitiveComparator"), (1, .class_ 1107), (0, u "java/io/Serializable"), (0, .class_ 1109), (0, u "java/lang/Comparable"), (0, .class_ 1111), (0, u "java/lang/constant/Constable"), (0, .class_ 1113), (0, u "java/lang/constant/ConstantDesc"), (2, u "serialVersionUID"), (0, u "J"), (3, u "REPL"), (0, u "C"), (2, u "LATIN1"), (1, u "UTF16"), (105, u "(Ljava/lang/StringBuilder;)V")] 217

def k7m0 : Method := { name := "<init>", desc := "()V", sig := { parameters := [], returnType := none }, accessFlags := 1, code := none }
def k7c1 : Code := { maxStack := 5, maxLocals := 2, code := jdk_42_method_3_code, exceptionTable := #[], attributes := #[] }
def k7m1 : Method := { name := "<init>", desc := "([C)V", sig := { parameters := [(.array .char)], returnType := none }, accessFlags := 1, code := some k7c1 }
def k7c2 : Code := { maxStack := 3, maxLocals := 2, code := jdk_42_method_53_code, exceptionTable := #[], attributes := #[] }
def k7m2 : Method := { name := "<init>", desc := "(Ljava/lang/StringBuilder;)V", sig := { parameters := [(.object "java/lang/StringBuilder")], returnType := none }, accessFlags := 1, code := some k7c2 }
def k7c3 : Code := { maxStack := 2, maxLocals := 1, code := jdk_42_method_54_code, exceptionTable := #[], attributes := #[] }
def k7m3 : Method := { name := "length", desc := "()I", sig := { parameters := [], returnType := some .int }, accessFlags := 1, code := some k7c3 }
def k7c4 : Code := { maxStack := 2, maxLocals := 2, code := jdk_42_method_56_code, exceptionTable := #[], attributes := #[] }
def k7m4 : Method := { name := "charAt", desc := "(I)C", sig := { parameters := [.int], returnType := some .char }, accessFlags := 1, code := some k7c4 }
def k7c5 : Code := { maxStack := 2, maxLocals := 3, code := jdk_42_method_66_code, exceptionTable := #[], attributes := #[] }
def k7m5 : Method := { name := "equals", desc := "(Ljava/lang/Object;)Z", sig := { parameters := [(.object "java/lang/Object")], returnType := some .boolean }, accessFlags := 1, code := some k7c5 }
def k7c6 : Code := { maxStack := 5, maxLocals := 4, code := jdk_42_method_147_code, exceptionTable := #[], attributes := #[] }
def k7m6 : Method := { name := "getBytes", desc := "([BIB)V", sig := { parameters := [(.array .byte), .int, .byte], returnType := none }, accessFlags := 0, code := some k7c6 }
def k7c7 : Code := { maxStack := 4, maxLocals := 6, code := jdk_42_method_149_code, exceptionTable := #[], attributes := #[] }
def k7m7 : Method := { name := "<init>", desc := "([CIILjava/lang/Void;)V", sig := { parameters := [(.array .char), .int, .int, (.object "java/lang/Void")], returnType := none }, accessFlags := 2, code := some k7c7 }
def k7c8 : Code := { maxStack := 5, maxLocals := 5, code := jdk_42_method_150_code, exceptionTable := #[], attributes := #[] }
def k7m8 : Method := { name := "<init>", desc := "(Ljava/lang/AbstractStringBuilder;Ljava/lang/Void;)V", sig := { parameters := [(.object "java/lang/AbstractStringBuilder"), (.object "java/lang/Void")], returnType := none }, accessFlags := 0, code := some k7c8 }
def k7c9 : Code := { maxStack := 1, maxLocals := 1, code := jdk_42_method_152_code, exceptionTable := #[], attributes := #[] }
def k7m9 : Method := { name := "coder", desc := "()B", sig := { parameters := [], returnType := some .byte }, accessFlags := 0, code := some k7c9 }
def k7c10 : Code := { maxStack := 1, maxLocals := 1, code := jdk_42_method_154_code, exceptionTable := #[], attributes := #[] }
def k7m10 : Method := { name := "isLatin1", desc := "()Z", sig := { parameters := [], returnType := some .boolean }, accessFlags := 0, code := some k7c10 }
def k7c11 : Code := { maxStack := 3, maxLocals := 2, code := jdk_42_method_155_code, exceptionTable := #[], attributes := #[] }
def k7m11 : Method := { name := "checkIndex", desc := "(II)V", sig := { parameters := [.int, .int], returnType := none }, accessFlags := 8, code := some k7c11 }
def k7c12 : Code := { maxStack := 4, maxLocals := 3, code := jdk_42_method_157_code, exceptionTable := #[], attributes := #[] }
def k7m12 : Method := { name := "checkBoundsOffCount", desc := "(III)I", sig := { parameters := [.int, .int, .int], returnType := some .int }, accessFlags := 8, code := some k7c12 }
/-- java/lang/String -/
def k7 : Class := { plain "java/lang/String" (some 0) with
  accessFlags := 49
  interfaces := #[2, 3, 4, 5, 6]
  cf := some (fileOf pool7 10 #[.nestMembers #[1103]] #[{ accessFlags := 1, nameIndex := 5, descriptorIndex := 6, attributes := #[] }, { accessFlags := 1, nameIndex := 5, descriptorIndex := 1010, attributes := #[] }, { accessFlags := 1, nameIndex := 5, descriptorIndex := 1233, attributes := #[] }, { accessFlags := 1, nameIndex := 507, descriptorIndex := 334, attributes := #[] }, { accessFlags := 1, nameIndex := 497, descriptorIndex := 427, attributes := #[] }, { accessFlags := 1, nameIndex := 543, descriptorIndex := 573, attributes := #[] }, { accessFlags := 0, nameIndex := 532, descriptorIndex := 821, attributes := #[] }, { accessFlags := 2, nameIndex := 5, descriptorIndex := 29, attributes := #[] }, { accessFlags := 0, nameIndex := 5, descriptorIndex := 491, attributes := #[] }, { accessFlags := 0, nameIndex := 17, descriptorIndex := 337, attributes := #[] }, { accessFlags := 0, nameIndex := 494, descriptorIndex := 142, attributes := #[] }, { accessFlags := 8, nameIndex := 501, descriptorIndex := 391, attributes := #[] }, { accessFlags := 8, nameIndex := 36, descriptorIndex := 37, attributes := #[] }] 49 2 #[1106, 1108, 575, 1110, 1112] #[{ accessFlags := 18, nameIndex := 13, descriptorIndex := 14, attributes := #[] }, { accessFlags := 18, nameIndex := 17, descriptorIndex := 18, attributes := #[] }, { accessFlags := 2, nameIndex := 21, descriptorIndex := 22, attributes := #[] }, { accessFlags := 2, nameIndex := 25, descriptorIndex := 26, attributes := #[] }, { accessFlags := 26, nameIndex := 1116, descriptorIndex := 1117, attributes := #[] }, { accessFlags := 24, nameIndex := 40, descriptorIndex := 26, attributes := #[] }, { accessFlags := 26, nameIndex := 1101, descriptorIndex := 1102, attributes := #[] }, { accessFlags := 26, nameIndex := 1121, descriptorIndex := 1122, attributes := #[] }, { accessFlags := 25, nameIndex := 599, descriptorIndex := 600, attributes := #[] }, { accessFlags := 24, nameIndex := 1125, descriptorIndex := 18, attributes := #[] }, { accessFlags := 24, nameIndex := 1127, descriptorIndex := 18, attributes := #[] }])
  fields := #[{ name := "value", type := (.array .byte), accessFlags := 18, slot := 0, constantValue := 0 }, { name := "coder", type := .byte, accessFlags := 18, slot := 1, constantValue := 0 }, { name := "hash", type := .int, accessFlags := 2, slot := 2, constantValue := 0 }, { name := "hashIsZero", type := .boolean, accessFlags := 2, slot := 3, constantValue := 0 }, { name := "serialVersionUID", type := .long, accessFlags := 26, slot := 0, constantValue := 0 }, { name := "COMPACT_STRINGS", type := .boolean, accessFlags := 24, slot := 1, constantValue := 0 }, { name := "serialPersistentFields", type := (.array (.object "java/io/ObjectStreamField")), accessFlags := 26, slot := 2, constantValue := 0 }, { name := "REPL", type := .char, accessFlags := 26, slot := 3, constantValue := 0 }, { name := "CASE_INSENSITIVE_ORDER", type := (.object "java/util/Comparator"), accessFlags := 25, slot := 4, constantValue := 0 }, { name := "LATIN1", type := .byte, accessFlags := 24, slot := 5, constantValue := 0 }, { name := "UTF16", type := .byte, accessFlags := 24, slot := 6, constantValue := 0 }]
  methods := #[k7m0, k7m1, k7m2, k7m3, k7m4, k7m5, k7m6, k7m7, k7m8, k7m9, k7m10, k7m11, k7m12]
  instanceTypes := #[(.array .byte), .byte, .int, .boolean]
  staticTypes := #[.long, .boolean, (.array (.object "java/io/ObjectStreamField")), .char, (.object "java/util/Comparator"), .byte, .byte]
  resolved := Array.replicate 1451 none
  statics := some 0 }

def pool8 : Array CpInfo := pool [(1, .class_ 2), (0, u "java/lang/String"), (1, .class_ 6), (1, u "java/lang/Object"), (0, u "<init>"), (0, u "()V"), (0, .methodref 1 10), (0, .nameAndType 11 12), (0, u "checkIndex"), (0, u "(II)V"), (1, .class_ 16), (1, u "java/lang/StringLatin1"), (0, u "inflate"), (2, .class_ 22), (1, u "java/lang/StringUTF16"), (3, .nameAndType 17 27), (0, u "([BI[BII)V"), (25, u "([BI)C"), (67, u "$assertionsDisabled"), (0, u "Z"), (98, .class_ 223), (1, u "java/lang/StringLatin1$LinesSpliterator"), (16, .methodref 20 26), (11, u "charAt"), (28, u "equals"), (0, u "([B[B)Z"), (107, .class_ 391), (0, u "java/lang/StringLatin1$CharsSpliterator")] 3

def k8m0 : Method := { name := "<init>", desc := "()V", sig := { parameters := [], returnType := none }, accessFlags := 0, code := none }
def k8c1 : Code := { maxStack := 2, maxLocals := 2, code := jdk_43_method_2_code, exceptionTable := #[], attributes := #[] }
def k8m1 : Method := { name := "charAt", desc := "([BI)C", sig := { parameters := [(.array .byte), .int], returnType := some .char }, accessFlags := 9, code := some k8c1 }
def k8c2 : Code := { maxStack := 3, maxLocals := 3, code := jdk_43_method_13_code, exceptionTable := #[], attributes := #[] }
def k8m2 : Method := { name := "equals", desc := "([B[B)Z", sig := { parameters := [(.array .byte), (.array .byte)], returnType := some .boolean }, accessFlags := 9, code := some k8c2 }
def k8c3 : Code := { maxStack := 5, maxLocals := 5, code := jdk_43_method_50_code, exceptionTable := #[], attributes := #[] }
def k8m3 : Method := { name := "inflate", desc := "([BI[BII)V", sig := { parameters := [(.array .byte), .int, (.array .byte), .int, .int], returnType := none }, accessFlags := 9, code := some k8c3 }
/-- java/lang/StringLatin1 -/
def k8 : Class := { plain "java/lang/StringLatin1" (some 0) with
  accessFlags := 48
  interfaces := #[]
  cf := some (fileOf pool8 14 #[.nestMembers #[390, 221]] #[{ accessFlags := 0, nameIndex := 7, descriptorIndex := 8, attributes := #[] }, { accessFlags := 9, nameIndex := 252, descriptorIndex := 53, attributes := #[] }, { accessFlags := 9, nameIndex := 281, descriptorIndex := 282, attributes := #[] }, { accessFlags := 9, nameIndex := 17, descriptorIndex := 27, attributes := #[] }] 48 4 #[] #[{ accessFlags := 4120, nameIndex := 121, descriptorIndex := 122, attributes := #[] }])
  fields := #[{ name := "$assertionsDisabled", type := .boolean, accessFlags := 4120, slot := 0, constantValue := 0 }]
  methods := #[k8m0, k8m1, k8m2, k8m3]
  instanceTypes := #[]
  staticTypes := #[.boolean]
  resolved := Array.replicate 395 none
  statics := none }

def pool9 : Array CpInfo := pool [(2, .class_ 4), (1, u "java/lang/Object"), (0, u "<init>"), (0, u "()V"), (17, .class_ 26), (1, u "jdk/internal/util/Preconditions"), (6, u "checkIndex"), (15, u "checkFromIndexSize"), (5, .class_ 56), (0, u "jdk/internal/util/Preconditions$4"), (57, .class_ 115), (0, u "jdk/internal/util/Preconditions$1"), (7, u "SIOOBE_FORMATTER"), (0, u "Ljava/util/function/BiFunction;"), (0, .class_ 126), (0, u "jdk/internal/util/Preconditions$2"), (3, u "AIOOBE_FORMATTER"), (0, .class_ 132), (0, u "jdk/internal/util/Preconditions$3"), (3, u "IOOBE_FORMATTER"), (41, u "(IILjava/util/function/BiFunction;)I"), (4, u "(IIILjava/util/function/BiFunction;)I")] 10

def k9m0 : Method := { name := "<init>", desc := "()V", sig := { parameters := [], returnType := none }, accessFlags := 1, code := none }
def k9c1 : Code := { maxStack := 3, maxLocals := 3, code := jdk_41_method_11_code, exceptionTable := #[], attributes := #[] }
def k9m1 : Method := { name := "checkIndex", desc := "(IILjava/util/function/BiFunction;)I", sig := { parameters := [.int, .int, (.object "java/util/function/BiFunction")], returnType := some .int }, accessFlags := 9, code := some k9c1 }
def k9c2 : Code := { maxStack := 4, maxLocals := 4, code := jdk_41_method_13_code, exceptionTable := #[], attributes := #[] }
def k9m2 : Method := { name := "checkFromIndexSize", desc := "(IIILjava/util/function/BiFunction;)I", sig := { parameters := [.int, .int, .int, (.object "java/util/function/BiFunction")], returnType := some .int }, accessFlags := 9, code := some k9c2 }
/-- jdk/internal/util/Preconditions -/
def k9 : Class := { plain "jdk/internal/util/Preconditions" (some 0) with
  accessFlags := 33
  interfaces := #[]
  cf := some (fileOf pool9 24 #[.nestMembers #[55, 131, 125, 114]] #[{ accessFlags := 1, nameIndex := 5, descriptorIndex := 6, attributes := #[] }, { accessFlags := 9, nameIndex := 33, descriptorIndex := 178, attributes := #[] }, { accessFlags := 9, nameIndex := 49, descriptorIndex := 183, attributes := #[] }] 33 2 #[] #[{ accessFlags := 25, nameIndex := 123, descriptorIndex := 124, attributes := #[] }, { accessFlags := 25, nameIndex := 130, descriptorIndex := 124, attributes := #[] }, { accessFlags := 25, nameIndex := 136, descriptorIndex := 124, attributes := #[] }])
  fields := #[{ name := "SIOOBE_FORMATTER", type := (.object "java/util/function/BiFunction"), accessFlags := 25, slot := 0, constantValue := 0 }, { name := "AIOOBE_FORMATTER", type := (.object "java/util/function/BiFunction"), accessFlags := 25, slot := 1, constantValue := 0 }, { name := "IOOBE_FORMATTER", type := (.object "java/util/function/BiFunction"), accessFlags := 25, slot := 2, constantValue := 0 }]
  methods := #[k9m0, k9m1, k9m2]
  instanceTypes := #[]
  staticTypes := #[(.object "java/util/function/BiFunction"), (.object "java/util/function/BiFunction"), (.object "java/util/function/BiFunction")]
  resolved := Array.replicate 194 none
  statics := some 1 }

def pool10 : Array CpInfo := pool [(3, .class_ 4), (0, u "java/lang/String"), (1, .class_ 8), (1, u "java/lang/Object"), (0, u "<init>"), (0, u "()V"), (0, .methodref 12 13), (0, .class_ 14), (0, .nameAndType 15 16), (0, u "java/lang/StringUTF16"), (0, u "newBytesLength"), (0, u "(I)I"), (3, .integer 1073741823), (23, .fieldref 12 45), (0, .nameAndType 46 47), (0, u "$assertionsDisabled"), (0, u "Z"), (0, .methodref 12 49), (0, .nameAndType 50 51), (0, u "length"), (0, u "([B)I"), (7, .fieldref 12 60), (0, .nameAndType 61 62), (0, u "HI_BYTE_SHIFT"), (0, u "I"), (0, .fieldref 12 64), (0, .nameAndType 65 62), (0, u "LO_BYTE_SHIFT"), (5, .methodref 12 72), (0, .nameAndType 73 74), (0, u "getChar"), (0, u "([BI)C"), (24, u "(II[B)V"), (7, .methodref 12 108), (0, .nameAndType 109 110), (0, u "newBytesFor"), (0, u "(I)[B"), (0, .methodref 12 112), (0, .nameAndType 113 114), (0, u "putChar"), (0, u "([BII)V"), (0, .methodref 12 116), (0, .nameAndType 117 118), (0, u "compress"), (0, u "([CI[BII)I"), (0, .methodref 12 120), (0, .nameAndType 121 122), (0, u "toBytes"), (0, u "([CII)[B"), (17, u "inflate"), (0, u "([BI[BII)V"), (31, .methodref 12 174), (0, .nameAndType 175 99), (0, u "checkBoundsOffCount"), (85, u "coderFromArrayLen"), (0, u "([BI)B"), (18, u "(III)I"), (87, .class_ 371), (1, u "java/lang/StringUTF16$LinesSpliterator"), (47, .methodref 3 420), (0, .nameAndType 175 281), (9, u "MAX_LENGTH"), (196, .class_ 628), (0, u "java/lang/StringUTF16$CodePointsSpliterator"), (0, .class_ 630), (0, u "java/lang/StringUTF16$CharsSpliterator")] 4

def k10m0 : Method := { name := "<init>", desc := "()V", sig := { parameters := [], returnType := none }, accessFlags := 0, code := none }
def k10c1 : Code := { maxStack := 1, maxLocals := 1, code := jdk_52_method_2_code, exceptionTable := #[], attributes := #[] }
def k10m1 : Method := { name := "newBytesFor", desc := "(I)[B", sig := { parameters := [.int], returnType := some (.array .byte) }, accessFlags := 9, code := some k10c1 }
def k10c2 : Code := { maxStack := 4, maxLocals := 1, code := jdk_52_method_3_code, exceptionTable := #[], attributes := #[] }
def k10m2 : Method := { name := "newBytesLength", desc := "(I)I", sig := { parameters := [.int], returnType := some .int }, accessFlags := 9, code := some k10c2 }
def k10c3 : Code := { maxStack := 4, maxLocals := 3, code := jdk_52_method_4_code, exceptionTable := #[], attributes := #[] }
def k10m3 : Method := { name := "putChar", desc := "([BII)V", sig := { parameters := [(.array .byte), .int, .int], returnType := none }, accessFlags := 8, code := some k10c3 }
def k10c4 : Code := { maxStack := 3, maxLocals := 2, code := jdk_52_method_5_code, exceptionTable := #[], attributes := #[] }
def k10m4 : Method := { name := "getChar", desc := "([BI)C", sig := { parameters := [(.array .byte), .int], returnType := some .char }, accessFlags := 8, code := some k10c4 }
def k10c5 : Code := { maxStack := 2, maxLocals := 1, code := jdk_52_method_6_code, exceptionTable := #[], attributes := #[] }
def k10m5 : Method := { name := "length", desc := "([B)I", sig := { parameters := [(.array .byte)], returnType := some .int }, accessFlags := 9, code := some k10c5 }
def k10c6 : Code := { maxStack := 4, maxLocals := 5, code := jdk_52_method_14_code, exceptionTable := #[], attributes := #[] }
def k10m6 : Method := { name := "toBytes", desc := "([CII)[B", sig := { parameters := [(.array .char), .int, .int], returnType := some (.array .byte) }, accessFlags := 9, code := some k10c6 }
def k10c7 : Code := { maxStack := 2, maxLocals := 2, code := jdk_52_method_15_code, exceptionTable := #[], attributes := #[] }
def k10m7 : Method := { name := "coderFromArrayLen", desc := "([BI)B", sig := { parameters := [(.array .byte), .int], returnType := some .byte }, accessFlags := 8, code := some k10c7 }
def k10c8 : Code := { maxStack := 5, maxLocals := 6, code := jdk_52_method_16_code, exceptionTable := #[], attributes := #[] }
def k10m8 : Method := { name := "compress", desc := "([CII)[B", sig := { parameters := [(.array .char), .int, .int], returnType := some (.array .byte) }, accessFlags := 9, code := some k10c8 }
def k10c9 : Code := { maxStack := 3, maxLocals := 7, code := jdk_52_method_21_code, exceptionTable := #[], attributes := #[] }
def k10m9 : Method := { name := "compress", desc := "([CI[BII)I", sig := { parameters := [(.array .char), .int, (.array .byte), .int, .int], returnType := some .int }, accessFlags := 9, code := some k10c9 }
def k10c10 : Code := { maxStack := 4, maxLocals := 6, code := jdk_52_method_86_code, exceptionTable := #[], attributes := #[] }
def k10m10 : Method := { name := "inflate", desc := "([BI[BII)V", sig := { parameters := [(.array .byte), .int, (.array .byte), .int, .int], returnType := none }, accessFlags := 9, code := some k10c10 }
def k10c11 : Code := { maxStack := 3, maxLocals := 3, code := jdk_52_method_94_code, exceptionTable := #[], attributes := #[] }
def k10m11 : Method := { name := "checkBoundsOffCount", desc := "(II[B)V", sig := { parameters := [.int, .int, (.array .byte)], returnType := none }, accessFlags := 9, code := some k10c11 }
/-- java/lang/StringUTF16 -/
def k10 : Class := { plain "java/lang/StringUTF16" (some 0) with
  accessFlags := 48
  interfaces := #[]
  cf := some (fileOf pool10 12 #[.nestMembers #[627, 629, 369]] #[{ accessFlags := 0, nameIndex := 9, descriptorIndex := 10, attributes := #[] }, { accessFlags := 9, nameIndex := 109, descriptorIndex := 110, attributes := #[] }, { accessFlags := 9, nameIndex := 15, descriptorIndex := 16, attributes := #[] }, { accessFlags := 8, nameIndex := 113, descriptorIndex := 114, attributes := #[] }, { accessFlags := 8, nameIndex := 73, descriptorIndex := 74, attributes := #[] }, { accessFlags := 9, nameIndex := 50, descriptorIndex := 51, attributes := #[] }, { accessFlags := 9, nameIndex := 121, descriptorIndex := 122, attributes := #[] }, { accessFlags := 8, nameIndex := 261, descriptorIndex := 262, attributes := #[] }, { accessFlags := 9, nameIndex := 117, descriptorIndex := 122, attributes := #[] }, { accessFlags := 9, nameIndex := 117, descriptorIndex := 118, attributes := #[] }, { accessFlags := 9, nameIndex := 140, descriptorIndex := 141, attributes := #[] }, { accessFlags := 9, nameIndex := 175, descriptorIndex := 99, attributes := #[] }] 48 6 #[] #[{ accessFlags := 26, nameIndex := 61, descriptorIndex := 62, attributes := #[] }, { accessFlags := 26, nameIndex := 65, descriptorIndex := 62, attributes := #[] }, { accessFlags := 24, nameIndex := 430, descriptorIndex := 62, attributes := #[] }, { accessFlags := 4120, nameIndex := 46, descriptorIndex := 47, attributes := #[] }])
  fields := #[{ name := "HI_BYTE_SHIFT", type := .int, accessFlags := 26, slot := 0, constantValue := 0 }, { name := "LO_BYTE_SHIFT", type := .int, accessFlags := 26, slot := 1, constantValue := 0 }, { name := "MAX_LENGTH", type := .int, accessFlags := 24, slot := 2, constantValue := 0 }, { name := "$assertionsDisabled", type := .boolean, accessFlags := 4120, slot := 3, constantValue := 0 }]
  methods := #[k10m0, k10m1, k10m2, k10m3, k10m4, k10m5, k10m6, k10m7, k10m8, k10m9, k10m10, k10m11]
  instanceTypes := #[]
  staticTypes := #[.int, .int, .int, .boolean]
  resolved := Array.replicate 635 none
  statics := some 2 }

def pool11 : Array CpInfo := pool [(3, .class_ 4), (0, u "com/example/ceresio/ceresio/StateFormat"), (1, .class_ 8), (0, .nameAndType 9 10), (0, u "java/lang/Object"), (0, u "<init>"), (0, u "()V"), (2, u "ENGINES"), (0, u "[Lcom/example/ceresio/ceresio/Engine;"), (2, .class_ 18), (0, u "java/lang/StringBuilder"), (0, .methodref 17 7), (2, .methodref 17 23), (0, .nameAndType 24 25), (0, u "append"), (0, u "(Ljava/lang/String;)Ljava/lang/StringBuilder;"), (5, .methodref 17 32), (0, .nameAndType 33 34), (0, u "toString"), (0, u "()Ljava/lang/String;"), (1, .nameAndType 9 37), (0, u "(Ljava/lang/String;)V"), (0, .class_ 39), (0, u "java/lang/IllegalArgumentException"), (0, .string 41), (0, u "malformed state: "), (0, .methodref 38 36), (20, u "VERSION"), (0, u "I"), (2, u "CHECKSUM_BYTES"), (1, u "FRAME_BYTES"), (6, u "malformed"), (0, u "(Ljava/lang/String;)Ljava/lang/IllegalArgumentException;"), (6, .class_ 85), (0, u "com/example/ceresio/ceresio/StateFormat$Reader"), (0, .class_ 87), (0, u "com/example/ceresio/ceresio/StateFormat$Writer")] 3

def k11m0 : Method := { name := "<init>", desc := "()V", sig := { parameters := [], returnType := none }, accessFlags := 2, code := none }
def k11c1 : Code := { maxStack := 4, maxLocals := 1, code := prog_11_method_3_code, exceptionTable := #[], attributes := #[] }
def k11m1 : Method := { name := "malformed", desc := "(Ljava/lang/String;)Ljava/lang/IllegalArgumentException;", sig := { parameters := [(.object "java/lang/String")], returnType := some (.object "java/lang/IllegalArgumentException") }, accessFlags := 8, code := some k11c1 }
/-- com/example/ceresio/ceresio/StateFormat -/
def k11 : Class := { plain "com/example/ceresio/ceresio/StateFormat" (some 0) with
  accessFlags := 48
  interfaces := #[]
  cf := some (fileOf pool11 3 #[.nestMembers #[84, 86]] #[{ accessFlags := 2, nameIndex := 9, descriptorIndex := 10, attributes := #[] }, { accessFlags := 8, nameIndex := 76, descriptorIndex := 77, attributes := #[] }] 48 6 #[] #[{ accessFlags := 24, nameIndex := 63, descriptorIndex := 64, attributes := #[] }, { accessFlags := 26, nameIndex := 67, descriptorIndex := 64, attributes := #[] }, { accessFlags := 26, nameIndex := 69, descriptorIndex := 64, attributes := #[] }, { accessFlags := 26, nameIndex := 13, descriptorIndex := 14, attributes := #[] }])
  fields := #[{ name := "VERSION", type := .int, accessFlags := 24, slot := 0, constantValue := 0 }, { name := "CHECKSUM_BYTES", type := .int, accessFlags := 26, slot := 1, constantValue := 0 }, { name := "FRAME_BYTES", type := .int, accessFlags := 26, slot := 2, constantValue := 0 }, { name := "ENGINES", type := (.array (.object "com/example/ceresio/ceresio/Engine")), accessFlags := 26, slot := 3, constantValue := 0 }]
  methods := #[k11m0, k11m1]
  instanceTypes := #[]
  staticTypes := #[.int, .int, .int, (.array (.object "com/example/ceresio/ceresio/Engine"))]
  resolved := Array.replicate 91 none
  statics := none }

def pool12 : Array CpInfo := pool [(1, .methodref 2 3), (0, .class_ 4), (0, .nameAndType 5 6), (0, u "java/lang/Object"), (0, u "<init>"), (0, u "()V"), (0, .fieldref 8 9), (0, .class_ 10), (0, .nameAndType 11 12), (0, u "java/lang/Throwable"), (0, u "cause"), (0, u "Ljava/lang/Throwable;"), (0, .fieldref 8 14), (0, .nameAndType 15 16), (0, u "UNASSIGNED_STACK"), (0, u "[Ljava/lang/StackTraceElement;"), (0, .fieldref 8 18), (0, .nameAndType 19 16), (0, u "stackTrace"), (0, .fieldref 8 21), (0, .nameAndType 22 23), (0, u "SUPPRESSED_SENTINEL"), (0, u "Ljava/util/List;"), (0, .fieldref 8 25), (0, .nameAndType 26 23), (0, u "suppressedExceptions"), (0, .methodref 8 28), (0, .nameAndType 29 30), (0, u "fillInStackTrace"), (0, u "()Ljava/lang/Throwable;"), (0, .fieldref 8 32), (0, .nameAndType 33 34), (0, u "detailMessage"), (0, u "Ljava/lang/String;"), (3, u "()Ljava/lang/String;"), (2, u "getMessage"), (51, .class_ 94), (0, u "java/lang/Throwable$WrappedPrintStream"), (6, .class_ 103), (1, u "java/lang/Throwable$PrintStreamOrWriter"), (54, u "getCause"), (6, u "$assertionsDisabled"), (0, u "Z"), (26, .class_ 194), (0, u "java/lang/Throwable$WrappedPrintWriter"), (3, .fieldref 8 199), (0, .nameAndType 200 201), (0, u "backtrace"), (0, u "Ljava/lang/Object;"), (0, .methodref 8 203), (0, .nameAndType 29 204), (0, u "(I)Ljava/lang/Throwable;"), (6, u "depth"), (0, u "I"), (10, u "(Ljava/lang/String;)V"), (45, .class_ 271), (1, u "java/lang/Throwable$SentinelHolder"), (32, u "EMPTY_THROWABLE_ARRAY"), (0, u "[Ljava/lang/Throwable;"), (12, .class_ 319), (0, u "java/io/Serializable"), (0, u "serialVersionUID"), (0, u "J"), (5, u "NULL_CAUSE_MESSAGE"), (0, u "SELF_SUPPRESSION_MESSAGE"), (0, u "CAUSE_CAPTION"), (0, u "SUPPRESSED_CAPTION")] 73

def k12c0 : Code := { maxStack := 2, maxLocals := 1, code := jdk_78_method_1_code, exceptionTable := #[], attributes := #[] }
def k12m0 : Method := { name := "<init>", desc := "()V", sig := { parameters := [], returnType := none }, accessFlags := 1, code := some k12c0 }
def k12c1 : Code := { maxStack := 2, maxLocals := 2, code := jdk_78_method_2_code, exceptionTable := #[], attributes := #[] }
def k12m1 : Method := { name := "<init>", desc := "(Ljava/lang/String;)V", sig := { parameters := [(.object "java/lang/String")], returnType := none }, accessFlags := 1, code := some k12c1 }
def k12c2 : Code := { maxStack := 1, maxLocals := 1, code := jdk_78_method_6_code, exceptionTable := #[], attributes := #[] }
def k12m2 : Method := { name := "getMessage", desc := "()Ljava/lang/String;", sig := { parameters := [], returnType := some (.object "java/lang/String") }, accessFlags := 1, code := some k12c2 }
def k12c3 : Code := { maxStack := 2, maxLocals := 1, code := ⟨#[0x2a, 0xb4, 0x00, 0x07, 0x2a, 0xa6, 0x00, 0x07, 0x01, 0xa7, 0x00, 0x07, 0x2a, 0xb4, 0x00, 0x07, 0xb0]⟩, exceptionTable := #[], attributes := #[] }
def k12m3 : Method := { name := "getCause", desc := "()Ljava/lang/Throwable;", sig := { parameters := [], returnType := some (.object "java/lang/Throwable") }, accessFlags := 33, code := some k12c3 }
def k12c4 : Code := { maxStack := 2, maxLocals := 1, code := ⟨#[0x2a, 0xb4, 0x00, 0x11, 0xc7, 0x00, 0x0a, 0x2a, 0xb4, 0x00, 0xc6, 0xc6, 0x00, 0x10, 0x2a, 0x03, 0xb6, 0x00, 0xca, 0x57, 0x2a, 0xb2, 0x00, 0x0d, 0xb5, 0x00, 0x11, 0x2a, 0xb0]⟩, exceptionTable := #[], attributes := #[] }
def k12m4 : Method := { name := "fillInStackTrace", desc := "()Ljava/lang/Throwable;", sig := { parameters := [], returnType := some (.object "java/lang/Throwable") }, accessFlags := 33, code := some k12c4 }
def k12m5 : Method := { name := "fillInStackTrace", desc := "(I)Ljava/lang/Throwable;", sig := { parameters := [.int], returnType := some (.object "java/lang/Throwable") }, accessFlags := 258, code := none }
/-- java/lang/Throwable -/
def k12 : Class := { plain "java/lang/Throwable" (some 0) with
  accessFlags := 33
  interfaces := #[2]
  cf := some (fileOf pool12 8 #[.nestMembers #[193, 93, 101, 269]] #[{ accessFlags := 1, nameIndex := 5, descriptorIndex := 6, attributes := #[] }, { accessFlags := 1, nameIndex := 5, descriptorIndex := 223, attributes := #[] }, { accessFlags := 1, nameIndex := 41, descriptorIndex := 38, attributes := #[] }, { accessFlags := 33, nameIndex := 158, descriptorIndex := 30, attributes := #[] }, { accessFlags := 33, nameIndex := 29, descriptorIndex := 30, attributes := #[] }, { accessFlags := 258, nameIndex := 29, descriptorIndex := 204, attributes := #[] }] 33 2 #[318] #[{ accessFlags := 26, nameIndex := 320, descriptorIndex := 321, attributes := #[] }, { accessFlags := 130, nameIndex := 200, descriptorIndex := 201, attributes := #[] }, { accessFlags := 2, nameIndex := 33, descriptorIndex := 34, attributes := #[] }, { accessFlags := 26, nameIndex := 15, descriptorIndex := 16, attributes := #[] }, { accessFlags := 2, nameIndex := 11, descriptorIndex := 12, attributes := #[] }, { accessFlags := 2, nameIndex := 19, descriptorIndex := 16, attributes := #[] }, { accessFlags := 130, nameIndex := 211, descriptorIndex := 212, attributes := #[] }, { accessFlags := 26, nameIndex := 22, descriptorIndex := 23, attributes := #[] }, { accessFlags := 2, nameIndex := 26, descriptorIndex := 23, attributes := #[] }, { accessFlags := 26, nameIndex := 327, descriptorIndex := 34, attributes := #[] }, { accessFlags := 26, nameIndex := 328, descriptorIndex := 34, attributes := #[] }, { accessFlags := 26, nameIndex := 329, descriptorIndex := 34, attributes := #[] }, { accessFlags := 26, nameIndex := 330, descriptorIndex := 34, attributes := #[] }, { accessFlags := 26, nameIndex := 304, descriptorIndex := 305, attributes := #[] }, { accessFlags := 4120, nameIndex := 165, descriptorIndex := 166, attributes := #[] }])
  fields := #[{ name := "serialVersionUID", type := .long, accessFlags := 26, slot := 0, constantValue := 0 }, { name := "backtrace", type := (.object "java/lang/Object"), accessFlags := 130, slot := 0, constantValue := 0 }, { name := "detailMessage", type := (.object "java/lang/String"), accessFlags := 2, slot := 1, constantValue := 0 }, { name := "UNASSIGNED_STACK", type := (.array (.object "java/lang/StackTraceElement")), accessFlags := 26, slot := 1, constantValue := 0 }, { name := "cause", type := (.object "java/lang/Throwable"), accessFlags := 2, slot := 2, constantValue := 0 }, { name := "stackTrace", type := (.array (.object "java/lang/StackTraceElement")), accessFlags := 2, slot := 3, constantValue := 0 }, { name := "depth", type := .int, accessFlags := 130, slot := 4, constantValue := 0 }, { name := "SUPPRESSED_SENTINEL", type := (.object "java/util/List"), accessFlags := 26, slot := 2, constantValue := 0 }, { name := "suppressedExceptions", type := (.object "java/util/List"), accessFlags := 2, slot := 5, constantValue := 0 }, { name := "NULL_CAUSE_MESSAGE", type := (.object "java/lang/String"), accessFlags := 26, slot := 3, constantValue := 0 }, { name := "SELF_SUPPRESSION_MESSAGE", type := (.object "java/lang/String"), accessFlags := 26, slot := 4, constantValue := 0 }, { name := "CAUSE_CAPTION", type := (.object "java/lang/String"), accessFlags := 26, slot := 5, constantValue := 0 }, { name := "SUPPRESSED_CAPTION", type := (.object "java/lang/String"), accessFlags := 26, slot := 6, constantValue := 0 }, { name := "EMPTY_THROWABLE_ARRAY", type := (.array (.object "java/lang/Throwable")), accessFlags := 26, slot := 7, constantValue := 0 }, { name := "$assertionsDisabled", type := .boolean, accessFlags := 4120, slot := 8, constantValue := 0 }]
  methods := #[k12m0, k12m1, k12m2, k12m3, k12m4, k12m5]
  instanceTypes := #[(.object "java/lang/Object"), (.object "java/lang/String"), (.object "java/lang/Throwable"), (.array (.object "java/lang/StackTraceElement")), .int, (.object "java/util/List")]
  staticTypes := #[.long, (.array (.object "java/lang/StackTraceElement")), (.object "java/util/List"), (.object "java/lang/String"), (.object "java/lang/String"), (.object "java/lang/String"), (.object "java/lang/String"), (.array (.object "java/lang/Throwable")), .boolean]
  resolved := Array.replicate 404 none
  statics := some 3 }

def pool13 : Array CpInfo := pool [(2, .class_ 4), (1, u "java/lang/Throwable"), (0, u "<init>"), (0, u "()V"), (0, .methodref 2 8), (0, .nameAndType 5 9), (0, u "(Ljava/lang/String;)V"), (9, .class_ 20), (0, u "java/lang/Exception"), (0, u "serialVersionUID"), (0, u "J")] 17

def k13m0 : Method := { name := "<init>", desc := "()V", sig := { parameters := [], returnType := none }, accessFlags := 1, code := none }
def k13c1 : Code := { maxStack := 2, maxLocals := 2, code := jdk_59_method_2_code, exceptionTable := #[], attributes := #[] }
def k13m1 : Method := { name := "<init>", desc := "(Ljava/lang/String;)V", sig := { parameters := [(.object "java/lang/String")], returnType := none }, accessFlags := 1, code := some k13c1 }
/-- java/lang/Exception -/
def k13 : Class := { plain "java/lang/Exception" (some 12) with
  accessFlags := 33
  interfaces := #[]
  cf := some (fileOf pool13 19 #[] #[{ accessFlags := 1, nameIndex := 5, descriptorIndex := 6, attributes := #[] }, { accessFlags := 1, nameIndex := 5, descriptorIndex := 9, attributes := #[] }] 33 2 #[] #[{ accessFlags := 24, nameIndex := 21, descriptorIndex := 22, attributes := #[] }])
  fields := #[{ name := "serialVersionUID", type := .long, accessFlags := 24, slot := 0, constantValue := 0 }]
  methods := #[k13m0, k13m1]
  instanceTypes := #[(.object "java/lang/Object"), (.object "java/lang/String"), (.object "java/lang/Throwable"), (.array (.object "java/lang/StackTraceElement")), .int, (.object "java/util/List")]
  staticTypes := #[.long]
  resolved := Array.replicate 40 none
  statics := none }

def pool14 : Array CpInfo := pool [(2, .class_ 4), (1, u "java/lang/Exception"), (0, u "<init>"), (0, u "()V"), (0, .methodref 2 8), (0, .nameAndType 5 9), (0, u "(Ljava/lang/String;)V"), (9, .class_ 20), (0, u "java/lang/RuntimeException"), (0, u "serialVersionUID"), (0, u "J")] 17

def k14m0 : Method := { name := "<init>", desc := "()V", sig := { parameters := [], returnType := none }, accessFlags := 1, code := none }
def k14c1 : Code := { maxStack := 2, maxLocals := 2, code := jdk_58_method_2_code, exceptionTable := #[], attributes := #[] }
def k14m1 : Method := { name := "<init>", desc := "(Ljava/lang/String;)V", sig := { parameters := [(.object "java/lang/String")], returnType := none }, accessFlags := 1, code := some k14c1 }
/-- java/lang/RuntimeException -/
def k14 : Class := { plain "java/lang/RuntimeException" (some 13) with
  accessFlags := 33
  interfaces := #[]
  cf := some (fileOf pool14 19 #[] #[{ accessFlags := 1, nameIndex := 5, descriptorIndex := 6, attributes := #[] }, { accessFlags := 1, nameIndex := 5, descriptorIndex := 9, attributes := #[] }] 33 2 #[] #[{ accessFlags := 24, nameIndex := 21, descriptorIndex := 22, attributes := #[] }])
  fields := #[{ name := "serialVersionUID", type := .long, accessFlags := 24, slot := 0, constantValue := 0 }]
  methods := #[k14m0, k14m1]
  instanceTypes := #[(.object "java/lang/Object"), (.object "java/lang/String"), (.object "java/lang/Throwable"), (.array (.object "java/lang/StackTraceElement")), .int, (.object "java/util/List")]
  staticTypes := #[.long]
  resolved := Array.replicate 40 none
  statics := none }

def pool15 : Array CpInfo := pool [(2, .class_ 4), (1, u "java/lang/RuntimeException"), (0, u "<init>"), (0, u "()V"), (0, .methodref 2 8), (0, .nameAndType 5 9), (0, u "(Ljava/lang/String;)V"), (6, .class_ 17), (0, u "java/lang/IllegalArgumentException"), (0, u "serialVersionUID"), (0, u "J")] 15

def k15m0 : Method := { name := "<init>", desc := "()V", sig := { parameters := [], returnType := none }, accessFlags := 1, code := none }
def k15c1 : Code := { maxStack := 2, maxLocals := 2, code := jdk_57_method_2_code, exceptionTable := #[], attributes := #[] }
def k15m1 : Method := { name := "<init>", desc := "(Ljava/lang/String;)V", sig := { parameters := [(.object "java/lang/String")], returnType := none }, accessFlags := 1, code := some k15c1 }
/-- java/lang/IllegalArgumentException -/
def k15 : Class := { plain "java/lang/IllegalArgumentException" (some 14) with
  accessFlags := 33
  interfaces := #[]
  cf := some (fileOf pool15 16 #[] #[{ accessFlags := 1, nameIndex := 5, descriptorIndex := 6, attributes := #[] }, { accessFlags := 1, nameIndex := 5, descriptorIndex := 9, attributes := #[] }] 33 2 #[] #[{ accessFlags := 26, nameIndex := 18, descriptorIndex := 19, attributes := #[] }])
  fields := #[{ name := "serialVersionUID", type := .long, accessFlags := 26, slot := 0, constantValue := 0 }]
  methods := #[k15m0, k15m1]
  instanceTypes := #[(.object "java/lang/Object"), (.object "java/lang/String"), (.object "java/lang/Throwable"), (.array (.object "java/lang/StackTraceElement")), .int, (.object "java/util/List")]
  staticTypes := #[.long]
  resolved := Array.replicate 35 none
  statics := none }

def pool16 : Array CpInfo := pool [(1, .class_ 2), (0, u "java/lang/Appendable"), (0, .class_ 4), (0, u "java/lang/Object")] 9

/-- java/lang/Appendable -/
def k16 : Class := { plain "java/lang/Appendable" (some 0) with
  accessFlags := 1537
  interfaces := #[]
  cf := some (fileOf pool16 1 #[] #[] 1537 3 #[] #[])
  fields := #[]
  methods := #[]
  instanceTypes := #[]
  staticTypes := #[]
  resolved := Array.replicate 14 none
  statics := none }

def pool17 : Array CpInfo := pool [(1, .class_ 2), (0, u "java/lang/String"), (0, .methodref 4 5), (0, .class_ 6), (0, .nameAndType 7 8), (0, u "java/lang/Object"), (0, u "<init>"), (0, u "()V"), (1, .class_ 12), (1, u "java/lang/AbstractStringBuilder"), (0, u "EMPTYVALUE"), (0, u "[B"), (0, .fieldref 10 16), (0, .nameAndType 17 14), (0, u "value"), (0, .fieldref 1 19), (0, .nameAndType 20 21), (0, u "COMPACT_STRINGS"), (0, u "Z"), (0, .fieldref 10 23), (0, .nameAndType 24 25), (0, u "coder"), (0, u "B"), (0, .methodref 27 28), (0, .class_ 29), (0, .nameAndType 30 31), (0, u "java/lang/StringUTF16"), (0, u "newBytesFor"), (0, u "(I)[B"), (0, .methodref 1 33), (0, .nameAndType 34 35), (0, u "length"), (0, u "()I"), (3, .integer 2147483647), (0, .methodref 1 41), (0, .nameAndType 24 42), (0, u "()B"), (2, u "append"), (0, u "(Ljava/lang/String;)Ljava/lang/AbstractStringBuilder;"), (1, .class_ 49), (0, u "java/lang/CharSequence"), (19, u "(Ljava/lang/String;)V"), (5, u "maybeLatin1"), (3, .fieldref 10 80), (0, .nameAndType 81 82), (0, u "count"), (0, u "I"), (0, .methodref 10 84), (0, .nameAndType 85 86), (0, u "isLatin1"), (0, u "()Z"), (1, .class_ 90), (1, u "java/lang/StringLatin1"), (9, .methodref 10 101), (0, .nameAndType 102 103), (0, u "ensureCapacityInternal"), (0, u "(I)V"), (0, .methodref 10 105), (0, .nameAndType 106 107), (0, u "newCapacity"), (0, u "(I)I"), (0, .methodref 109 110), (0, .class_ 111), (0, .nameAndType 112 113), (0, u "java/util/Arrays"), (0, u "copyOf"), (0, u "([BI)[B"), (0, .methodref 115 116), (0, .class_ 117), (0, .nameAndType 118 119), (0, u "jdk/internal/util/ArraysSupport"), (0, u "newLength"), (0, u "(III)I"), (5, .methodref 88 126), (0, .nameAndType 127 128), (0, u "inflate"), (0, u "([BI[BII)V"), (66, .methodref 10 196), (0, .nameAndType 127 8), (7, .methodref 10 205), (0, .nameAndType 206 207), (0, u "appendNull"), (0, u "()Ljava/lang/AbstractStringBuilder;"), (0, .methodref 10 209), (0, .nameAndType 210 211), (0, u "putStringAt"), (0, u "(ILjava/lang/String;)V"), (5, u "inflateIfNeededFor"), (2, .nameAndType 221 222), (0, u "getBytes"), (0, u "([BIB)V"), (174, .methodref 10 398), (0, .nameAndType 217 69), (0, .methodref 1 220), (3, u "()[B"), (40, .class_ 445), (0, u "java/lang/Appendable"), (106, u "getValue")] 56

def k17m0 : Method := { name := "<init>", desc := "()V", sig := { parameters := [], returnType := none }, accessFlags := 0, code := none }
def k17c1 : Code := { maxStack := 2, maxLocals := 2, code := jdk_68_method_2_code, exceptionTable := #[], attributes := #[] }
def k17m1 : Method := { name := "<init>", desc := "(I)V", sig := { parameters := [.int], returnType := none }, accessFlags := 0, code := some k17c1 }
def k17c2 : Code := { maxStack := 1, maxLocals := 1, code := jdk_68_method_6_code, exceptionTable := #[], attributes := #[] }
def k17m2 : Method := { name := "length", desc := "()I", sig := { parameters := [], returnType := some .int }, accessFlags := 1, code := some k17c2 }
def k17c3 : Code := { maxStack := 4, maxLocals := 3, code := jdk_68_method_9_code, exceptionTable := #[], attributes := #[] }
def k17m3 : Method := { name := "ensureCapacityInternal", desc := "(I)V", sig := { parameters := [.int], returnType := none }, accessFlags := 2, code := some k17c3 }
def k17c4 : Code := { maxStack := 5, maxLocals := 6, code := jdk_68_method_10_code, exceptionTable := #[], attributes := #[] }
def k17m4 : Method := { name := "newCapacity", desc := "(I)I", sig := { parameters := [.int], returnType := some .int }, accessFlags := 2, code := some k17c4 }
def k17c5 : Code := { maxStack := 5, maxLocals := 2, code := jdk_68_method_11_code, exceptionTable := #[], attributes := #[] }
def k17m5 : Method := { name := "inflate", desc := "()V", sig := { parameters := [], returnType := none }, accessFlags := 2, code := some k17c5 }
def k17c6 : Code := { maxStack := 3, maxLocals := 3, code := jdk_68_method_22_code, exceptionTable := #[], attributes := #[] }
def k17m6 : Method := { name := "append", desc := "(Ljava/lang/String;)Ljava/lang/AbstractStringBuilder;", sig := { parameters := [(.object "java/lang/String")], returnType := some (.object "java/lang/AbstractStringBuilder") }, accessFlags := 1, code := some k17c6 }
def k17c7 : Code := { maxStack := 6, maxLocals := 3, code := jdk_68_method_26_code, exceptionTable := #[], attributes := #[] }
def k17m7 : Method := { name := "appendNull", desc := "()Ljava/lang/AbstractStringBuilder;", sig := { parameters := [], returnType := some (.object "java/lang/AbstractStringBuilder") }, accessFlags := 2, code := some k17c7 }
def k17c8 : Code := { maxStack := 1, maxLocals := 1, code := jdk_68_method_64_code, exceptionTable := #[], attributes := #[] }
def k17m8 : Method := { name := "getValue", desc := "()[B", sig := { parameters := [], returnType := some (.array .byte) }, accessFlags := 16, code := some k17c8 }
def k17c9 : Code := { maxStack := 1, maxLocals := 1, code := jdk_68_method_68_code, exceptionTable := #[], attributes := #[] }
def k17m9 : Method := { name := "isLatin1", desc := "()Z", sig := { parameters := [], returnType := some .boolean }, accessFlags := 16, code := some k17c9 }
def k17c10 : Code := { maxStack := 2, maxLocals := 2, code := jdk_68_method_71_code, exceptionTable := #[], attributes := #[] }
def k17m10 : Method := { name := "inflateIfNeededFor", desc := "(Ljava/lang/String;)V", sig := { parameters := [(.object "java/lang/String")], returnType := none }, accessFlags := 2, code := some k17c10 }
def k17c11 : Code := { maxStack := 4, maxLocals := 3, code := jdk_68_method_73_code, exceptionTable := #[], attributes := #[] }
def k17m11 : Method := { name := "putStringAt", desc := "(ILjava/lang/String;)V", sig := { parameters := [.int, (.object "java/lang/String")], returnType := none }, accessFlags := 2, code := some k17c11 }
/-- java/lang/AbstractStringBuilder -/
def k17 : Class := { plain "java/lang/AbstractStringBuilder" (some 0) with
  accessFlags := 1056
  interfaces := #[16, 4]
  cf := some (fileOf pool17 10 #[] #[{ accessFlags := 0, nameIndex := 7, descriptorIndex := 8, attributes := #[] }, { accessFlags := 0, nameIndex := 7, descriptorIndex := 103, attributes := #[] }, { accessFlags := 1, nameIndex := 34, descriptorIndex := 35, attributes := #[] }, { accessFlags := 2, nameIndex := 102, descriptorIndex := 103, attributes := #[] }, { accessFlags := 2, nameIndex := 106, descriptorIndex := 107, attributes := #[] }, { accessFlags := 2, nameIndex := 127, descriptorIndex := 8, attributes := #[] }, { accessFlags := 1, nameIndex := 45, descriptorIndex := 46, attributes := #[] }, { accessFlags := 2, nameIndex := 206, descriptorIndex := 207, attributes := #[] }, { accessFlags := 16, nameIndex := 552, descriptorIndex := 403, attributes := #[] }, { accessFlags := 16, nameIndex := 85, descriptorIndex := 86, attributes := #[] }, { accessFlags := 2, nameIndex := 217, descriptorIndex := 69, attributes := #[] }, { accessFlags := 2, nameIndex := 210, descriptorIndex := 211, attributes := #[] }] 1056 4 #[444, 48] #[{ accessFlags := 0, nameIndex := 17, descriptorIndex := 14, attributes := #[] }, { accessFlags := 0, nameIndex := 24, descriptorIndex := 25, attributes := #[] }, { accessFlags := 0, nameIndex := 75, descriptorIndex := 21, attributes := #[] }, { accessFlags := 0, nameIndex := 81, descriptorIndex := 82, attributes := #[] }, { accessFlags := 26, nameIndex := 13, descriptorIndex := 14, attributes := #[] }])
  fields := #[{ name := "value", type := (.array .byte), accessFlags := 0, slot := 0, constantValue := 0 }, { name := "coder", type := .byte, accessFlags := 0, slot := 1, constantValue := 0 }, { name := "maybeLatin1", type := .boolean, accessFlags := 0, slot := 2, constantValue := 0 }, { name := "count", type := .int, accessFlags := 0, slot := 3, constantValue := 0 }, { name := "EMPTYVALUE", type := (.array .byte), accessFlags := 26, slot := 0, constantValue := 0 }]
  methods := #[k17m0, k17m1, k17m2, k17m3, k17m4, k17m5, k17m6, k17m7, k17m8, k17m9, k17m10, k17m11]
  instanceTypes := #[(.array .byte), .byte, .boolean, .int]
  staticTypes := #[(.array .byte)]
  resolved := Array.replicate 609 none
  statics := none }

def pool18 : Array CpInfo := pool [(1, .methodref 2 3), (0, .class_ 4), (0, .nameAndType 5 6), (0, u "java/lang/AbstractStringBuilder"), (0, u "<init>"), (0, u "(I)V"), (11, .class_ 20), (1, u "java/lang/String"), (3, .class_ 26), (1, u "java/lang/StringBuilder"), (0, u "append"), (0, u "(Ljava/lang/String;)Ljava/lang/StringBuilder;"), (0, .methodref 2 30), (0, .nameAndType 27 31), (0, u "(Ljava/lang/String;)Ljava/lang/AbstractStringBuilder;"), (105, .methodref 18 138), (0, .nameAndType 5 139), (0, u "(Ljava/lang/StringBuilder;)V"), (5, u "()V"), (10, u "()I"), (186, .methodref 2 344), (0, .nameAndType 345 156), (0, u "length"), (3, .class_ 350), (0, u "java/lang/Appendable"), (0, .class_ 352), (0, u "java/io/Serializable"), (0, .class_ 354), (0, u "java/lang/Comparable"), (0, .class_ 356), (0, u "java/lang/CharSequence"), (0, u "serialVersionUID"), (0, u "J"), (40, u "toString"), (0, u "()Ljava/lang/String;")] 21

def k18c0 : Code := { maxStack := 2, maxLocals := 1, code := jdk_67_method_1_code, exceptionTable := #[], attributes := #[] }
def k18m0 : Method := { name := "<init>", desc := "()V", sig := { parameters := [], returnType := none }, accessFlags := 1, code := some k18c0 }
def k18c1 : Code := { maxStack := 2, maxLocals := 2, code := jdk_67_method_7_code, exceptionTable := #[], attributes := #[] }
def k18m1 : Method := { name := "append", desc := "(Ljava/lang/String;)Ljava/lang/StringBuilder;", sig := { parameters := [(.object "java/lang/String")], returnType := some (.object "java/lang/StringBuilder") }, accessFlags := 1, code := some k18c1 }
def k18c2 : Code := { maxStack := 3, maxLocals := 1, code := jdk_67_method_42_code, exceptionTable := #[], attributes := #[] }
def k18m2 : Method := { name := "toString", desc := "()Ljava/lang/String;", sig := { parameters := [], returnType := some (.object "java/lang/String") }, accessFlags := 1, code := some k18c2 }
def k18c3 : Code := { maxStack := 1, maxLocals := 1, code := jdk_67_method_93_code, exceptionTable := #[], attributes := #[] }
def k18m3 : Method := { name := "length", desc := "()I", sig := { parameters := [], returnType := some .int }, accessFlags := 4161, code := some k18c3 }
/-- java/lang/StringBuilder -/
def k18 : Class := { plain "java/lang/StringBuilder" (some 17) with
  accessFlags := 49
  interfaces := #[16, 2, 3, 4]
  cf := some (fileOf pool18 24 #[] #[{ accessFlags := 1, nameIndex := 5, descriptorIndex := 145, attributes := #[] }, { accessFlags := 1, nameIndex := 27, descriptorIndex := 28, attributes := #[] }, { accessFlags := 1, nameIndex := 399, descriptorIndex := 400, attributes := #[] }, { accessFlags := 4161, nameIndex := 345, descriptorIndex := 156, attributes := #[] }] 49 2 #[349, 351, 353, 355] #[{ accessFlags := 24, nameIndex := 357, descriptorIndex := 358, attributes := #[] }])
  fields := #[{ name := "serialVersionUID", type := .long, accessFlags := 24, slot := 0, constantValue := 0 }]
  methods := #[k18m0, k18m1, k18m2, k18m3]
  instanceTypes := #[(.array .byte), .byte, .boolean, .int]
  staticTypes := #[.long]
  resolved := Array.replicate 422 none
  statics := none }

def pool19 : Array CpInfo := pool [(9, u "<init>"), (6, .class_ 18), (1, u "java/lang/Object"), (0, u "()V"), (1, .class_ 23), (1, u "jdk/internal/util/ArraysSupport"), (0, u "LOG2_ARRAY_LONG_INDEX_SCALE"), (0, u "I"), (2, u "U"), (0, u "Ljdk/internal/misc/Unsafe;"), (8, u "BIG_ENDIAN"), (0, u "Z"), (8, u "LOG2_BYTE_BIT_SIZE"), (4, u "LOG2_ARRAY_INT_INDEX_SCALE"), (54, u "JLA"), (0, u "Ljdk/internal/access/JavaLangAccess;"), (11, u "LOG2_ARRAY_BOOLEAN_INDEX_SCALE"), (9, u "LOG2_ARRAY_BYTE_INDEX_SCALE"), (5, u "LOG2_ARRAY_CHAR_INDEX_SCALE"), (5, u "LOG2_ARRAY_SHORT_INDEX_SCALE"), (18, u "LOG2_ARRAY_FLOAT_INDEX_SCALE"), (24, u "LOG2_ARRAY_DOUBLE_INDEX_SCALE"), (6, .methodref 195 196), (0, .class_ 197), (0, .nameAndType 198 199), (0, u "java/lang/Math"), (0, u "max"), (0, u "(II)I"), (0, .integer 2147483639), (76, u "T_BOOLEAN"), (2, u "T_CHAR"), (1, u "T_FLOAT"), (1, u "T_DOUBLE"), (1, u "T_BYTE"), (1, u "T_SHORT"), (1, u "T_INT"), (1, u "T_LONG"), (1, u "SOFT_MAX_ARRAY_LENGTH"), (56, u "newLength"), (0, u "(III)I")] 25

def k19m0 : Method := { name := "<init>", desc := "()V", sig := { parameters := [], returnType := none }, accessFlags := 2, code := none }
def k19c1 : Code := { maxStack := 3, maxLocals := 4, code := jdk_48_method_27_code, exceptionTable := #[], attributes := #[] }
def k19m1 : Method := { name := "newLength", desc := "(III)I", sig := { parameters := [.int, .int, .int], returnType := some .int }, accessFlags := 9, code := some k19c1 }
/-- jdk/internal/util/ArraysSupport -/
def k19 : Class := { plain "jdk/internal/util/ArraysSupport" (some 0) with
  accessFlags := 33
  interfaces := #[]
  cf := some (fileOf pool19 21 #[] #[{ accessFlags := 2, nameIndex := 9, descriptorIndex := 19, attributes := #[] }, { accessFlags := 9, nameIndex := 351, descriptorIndex := 352, attributes := #[] }] 33 16 #[] #[{ accessFlags := 24, nameIndex := 28, descriptorIndex := 29, attributes := #[] }, { accessFlags := 26, nameIndex := 38, descriptorIndex := 39, attributes := #[] }, { accessFlags := 25, nameIndex := 121, descriptorIndex := 25, attributes := #[] }, { accessFlags := 25, nameIndex := 131, descriptorIndex := 25, attributes := #[] }, { accessFlags := 25, nameIndex := 137, descriptorIndex := 25, attributes := #[] }, { accessFlags := 25, nameIndex := 143, descriptorIndex := 25, attributes := #[] }, { accessFlags := 25, nameIndex := 53, descriptorIndex := 25, attributes := #[] }, { accessFlags := 25, nameIndex := 24, descriptorIndex := 25, attributes := #[] }, { accessFlags := 25, nameIndex := 162, descriptorIndex := 25, attributes := #[] }, { accessFlags := 25, nameIndex := 187, descriptorIndex := 25, attributes := #[] }, { accessFlags := 26, nameIndex := 48, descriptorIndex := 25, attributes := #[] }, { accessFlags := 25, nameIndex := 277, descriptorIndex := 25, attributes := #[] }, { accessFlags := 25, nameIndex := 280, descriptorIndex := 25, attributes := #[] }, { accessFlags := 25, nameIndex := 282, descriptorIndex := 25, attributes := #[] }, { accessFlags := 25, nameIndex := 284, descriptorIndex := 25, attributes := #[] }, { accessFlags := 25, nameIndex := 286, descriptorIndex := 25, attributes := #[] }, { accessFlags := 25, nameIndex := 288, descriptorIndex := 25, attributes := #[] }, { accessFlags := 25, nameIndex := 290, descriptorIndex := 25, attributes := #[] }, { accessFlags := 25, nameIndex := 292, descriptorIndex := 25, attributes := #[] }, { accessFlags := 26, nameIndex := 108, descriptorIndex := 109, attributes := #[] }, { accessFlags := 25, nameIndex := 294, descriptorIndex := 25, attributes := #[] }])
  fields := #[{ name := "U", type := (.object "jdk/internal/misc/Unsafe"), accessFlags := 24, slot := 0, constantValue := 0 }, { name := "BIG_ENDIAN", type := .boolean, accessFlags := 26, slot := 1, constantValue := 0 }, { name := "LOG2_ARRAY_BOOLEAN_INDEX_SCALE", type := .int, accessFlags := 25, slot := 2, constantValue := 0 }, { name := "LOG2_ARRAY_BYTE_INDEX_SCALE", type := .int, accessFlags := 25, slot := 3, constantValue := 0 }, { name := "LOG2_ARRAY_CHAR_INDEX_SCALE", type := .int, accessFlags := 25, slot := 4, constantValue := 0 }, { name := "LOG2_ARRAY_SHORT_INDEX_SCALE", type := .int, accessFlags := 25, slot := 5, constantValue := 0 }, { name := "LOG2_ARRAY_INT_INDEX_SCALE", type := .int, accessFlags := 25, slot := 6, constantValue := 0 }, { name := "LOG2_ARRAY_LONG_INDEX_SCALE", type := .int, accessFlags := 25, slot := 7, constantValue := 0 }, { name := "LOG2_ARRAY_FLOAT_INDEX_SCALE", type := .int, accessFlags := 25, slot := 8, constantValue := 0 }, { name := "LOG2_ARRAY_DOUBLE_INDEX_SCALE", type := .int, accessFlags := 25, slot := 9, constantValue := 0 }, { name := "LOG2_BYTE_BIT_SIZE", type := .int, accessFlags := 26, slot := 10, constantValue := 0 }, { name := "T_BOOLEAN", type := .int, accessFlags := 25, slot := 11, constantValue := 0 }, { name := "T_CHAR", type := .int, accessFlags := 25, slot := 12, constantValue := 0 }, { name := "T_FLOAT", type := .int, accessFlags := 25, slot := 13, constantValue := 0 }, { name := "T_DOUBLE", type := .int, accessFlags := 25, slot := 14, constantValue := 0 }, { name := "T_BYTE", type := .int, accessFlags := 25, slot := 15, constantValue := 0 }, { name := "T_SHORT", type := .int, accessFlags := 25, slot := 16, constantValue := 0 }, { name := "T_INT", type := .int, accessFlags := 25, slot := 17, constantValue := 0 }, { name := "T_LONG", type := .int, accessFlags := 25, slot := 18, constantValue := 0 }, { name := "JLA", type := (.object "jdk/internal/access/JavaLangAccess"), accessFlags := 26, slot := 19, constantValue := 0 }, { name := "SOFT_MAX_ARRAY_LENGTH", type := .int, accessFlags := 25, slot := 20, constantValue := 0 }]
  methods := #[k19m0, k19m1]
  instanceTypes := #[]
  staticTypes := #[(.object "jdk/internal/misc/Unsafe"), .boolean, .int, .int, .int, .int, .int, .int, .int, .int, .int, .int, .int, .int, .int, .int, .int, .int, .int, (.object "jdk/internal/access/JavaLangAccess"), .int]
  resolved := Array.replicate 378 none
  statics := none }

def pool20 : Array CpInfo := pool [(1, .class_ 2), (0, u "java/lang/Math"), (1, .class_ 6), (1, u "java/lang/Object"), (0, u "<init>"), (0, u "()V"), (89, .class_ 100), (1, u "java/lang/Math$RandomNumberGeneratorHolder"), (71, u "negativeZeroFloatBits"), (0, u "J"), (2, u "negativeZeroDoubleBits"), (21, u "max"), (2, u "min"), (43, u "$assertionsDisabled"), (0, u "Z"), (88, u "(II)I"), (2, u "twoToTheDoubleScaleDown"), (0, u "D"), (4, u "twoToTheDoubleScaleUp"), (9, u "E"), (3, u "PI"), (2, u "TAU"), (2, u "DEGREES_TO_RADIANS"), (0, u "RADIANS_TO_DEGREES")] 94

def k20m0 : Method := { name := "<init>", desc := "()V", sig := { parameters := [], returnType := none }, accessFlags := 2, code := none }
def k20c1 : Code := { maxStack := 2, maxLocals := 2, code := jdk_29_method_65_code, exceptionTable := #[], attributes := #[] }
def k20m1 : Method := { name := "max", desc := "(II)I", sig := { parameters := [.int, .int], returnType := some .int }, accessFlags := 9, code := some k20c1 }
def k20c2 : Code := { maxStack := 2, maxLocals := 2, code := jdk_29_method_69_code, exceptionTable := #[], attributes := #[] }
def k20m2 : Method := { name := "min", desc := "(II)I", sig := { parameters := [.int, .int], returnType := some .int }, accessFlags := 9, code := some k20c2 }
/-- java/lang/Math -/
def k20 : Class := { plain "java/lang/Math" (some 0) with
  accessFlags := 49
  interfaces := #[]
  cf := some (fileOf pool20 1 #[.nestMembers #[98]] #[{ accessFlags := 2, nameIndex := 7, descriptorIndex := 8, attributes := #[] }, { accessFlags := 9, nameIndex := 198, descriptorIndex := 335, attributes := #[] }, { accessFlags := 9, nameIndex := 201, descriptorIndex := 335, attributes := #[] }] 49 4 #[] #[{ accessFlags := 25, nameIndex := 354, descriptorIndex := 339, attributes := #[] }, { accessFlags := 25, nameIndex := 358, descriptorIndex := 339, attributes := #[] }, { accessFlags := 25, nameIndex := 361, descriptorIndex := 339, attributes := #[] }, { accessFlags := 26, nameIndex := 364, descriptorIndex := 339, attributes := #[] }, { accessFlags := 26, nameIndex := 365, descriptorIndex := 339, attributes := #[] }, { accessFlags := 26, nameIndex := 172, descriptorIndex := 173, attributes := #[] }, { accessFlags := 26, nameIndex := 176, descriptorIndex := 173, attributes := #[] }, { accessFlags := 8, nameIndex := 344, descriptorIndex := 339, attributes := #[] }, { accessFlags := 8, nameIndex := 338, descriptorIndex := 339, attributes := #[] }, { accessFlags := 4120, nameIndex := 245, descriptorIndex := 246, attributes := #[] }])
  fields := #[{ name := "E", type := .double, accessFlags := 25, slot := 0, constantValue := 0 }, { name := "PI", type := .double, accessFlags := 25, slot := 1, constantValue := 0 }, { name := "TAU", type := .double, accessFlags := 25, slot := 2, constantValue := 0 }, { name := "DEGREES_TO_RADIANS", type := .double, accessFlags := 26, slot := 3, constantValue := 0 }, { name := "RADIANS_TO_DEGREES", type := .double, accessFlags := 26, slot := 4, constantValue := 0 }, { name := "negativeZeroFloatBits", type := .long, accessFlags := 26, slot := 5, constantValue := 0 }, { name := "negativeZeroDoubleBits", type := .long, accessFlags := 26, slot := 6, constantValue := 0 }, { name := "twoToTheDoubleScaleUp", type := .double, accessFlags := 8, slot := 7, constantValue := 0 }, { name := "twoToTheDoubleScaleDown", type := .double, accessFlags := 8, slot := 8, constantValue := 0 }, { name := "$assertionsDisabled", type := .boolean, accessFlags := 4120, slot := 9, constantValue := 0 }]
  methods := #[k20m0, k20m1, k20m2]
  instanceTypes := #[]
  staticTypes := #[.double, .double, .double, .double, .double, .long, .long, .double, .double, .boolean]
  resolved := Array.replicate 460 none
  statics := none }

def pool21 : Array CpInfo := pool [(2, .class_ 4), (1, u "java/lang/Object"), (0, u "<init>"), (0, u "()V"), (7, .class_ 16), (1, u "java/util/Arrays"), (57, .class_ 76), (1, u "java/util/Arrays$NaturalOrder"), (36, .class_ 115), (1, u "java/util/Arrays$LegacyMergeSort"), (1, u "Z"), (21, u "copyOfRange"), (10, .methodref 151 152), (0, .class_ 153), (0, .nameAndType 154 155), (0, u "java/lang/System"), (0, u "arraycopy"), (0, u "(Ljava/lang/Object;ILjava/lang/Object;II)V"), (146, u "copyOf"), (1, .methodref 305 306), (0, .class_ 307), (0, .nameAndType 308 309), (0, u "java/lang/Math"), (0, u "min"), (0, u "(II)I"), (29, .methodref 14 340), (0, .nameAndType 341 342), (0, u "copyOfRangeByte"), (0, u "([BII)[B"), (0, .methodref 14 344), (0, .nameAndType 345 346), (0, u "checkLength"), (0, u "(II)V"), (28, .class_ 376), (0, u "java/util/Arrays$ArrayList"), (68, u "$assertionsDisabled"), (269, u "MIN_ARRAY_SORT_GRAN"), (0, u "I"), (2, u "INSERTIONSORT_THRESHOLD"), (149, u "([BI)[B"), (105, .class_ 976), (0, u "java/util/Arrays$ArrayItr")] 52

def k21m0 : Method := { name := "<init>", desc := "()V", sig := { parameters := [], returnType := none }, accessFlags := 2, code := none }
def k21c1 : Code := { maxStack := 6, maxLocals := 3, code := jdk_65_method_121_code, exceptionTable := #[], attributes := #[] }
def k21m1 : Method := { name := "copyOf", desc := "([BI)[B", sig := { parameters := [(.array .byte), .int], returnType := some (.array .byte) }, accessFlags := 9, code := some k21c1 }
def k21c2 : Code := { maxStack := 4, maxLocals := 2, code := jdk_65_method_131_code, exceptionTable := #[], attributes := #[] }
def k21m2 : Method := { name := "checkLength", desc := "(II)V", sig := { parameters := [.int, .int], returnType := none }, accessFlags := 10, code := some k21c2 }
def k21c3 : Code := { maxStack := 3, maxLocals := 3, code := jdk_65_method_132_code, exceptionTable := #[], attributes := #[] }
def k21m3 : Method := { name := "copyOfRange", desc := "([BII)[B", sig := { parameters := [(.array .byte), .int, .int], returnType := some (.array .byte) }, accessFlags := 9, code := some k21c3 }
def k21c4 : Code := { maxStack := 6, maxLocals := 5, code := jdk_65_method_133_code, exceptionTable := #[], attributes := #[] }
def k21m4 : Method := { name := "copyOfRangeByte", desc := "([BII)[B", sig := { parameters := [(.array .byte), .int, .int], returnType := some (.array .byte) }, accessFlags := 10, code := some k21c4 }
/-- java/util/Arrays -/
def k21 : Class := { plain "java/util/Arrays" (some 0) with
  accessFlags := 49
  interfaces := #[]
  cf := some (fileOf pool21 14 #[.nestMembers #[975, 375, 113, 74]] #[{ accessFlags := 2, nameIndex := 5, descriptorIndex := 6, attributes := #[] }, { accessFlags := 9, nameIndex := 302, descriptorIndex := 869, attributes := #[] }, { accessFlags := 10, nameIndex := 345, descriptorIndex := 346, attributes := #[] }, { accessFlags := 9, nameIndex := 139, descriptorIndex := 342, attributes := #[] }, { accessFlags := 10, nameIndex := 341, descriptorIndex := 342, attributes := #[] }] 49 2 #[] #[{ accessFlags := 26, nameIndex := 715, descriptorIndex := 716, attributes := #[] }, { accessFlags := 26, nameIndex := 719, descriptorIndex := 716, attributes := #[] }, { accessFlags := 4120, nameIndex := 445, descriptorIndex := 117, attributes := #[] }])
  fields := #[{ name := "MIN_ARRAY_SORT_GRAN", type := .int, accessFlags := 26, slot := 0, constantValue := 0 }, { name := "INSERTIONSORT_THRESHOLD", type := .int, accessFlags := 26, slot := 1, constantValue := 0 }, { name := "$assertionsDisabled", type := .boolean, accessFlags := 4120, slot := 2, constantValue := 0 }]
  methods := #[k21m0, k21m1, k21m2, k21m3, k21m4]
  instanceTypes := #[]
  staticTypes := #[.int, .int, .boolean]
  resolved := Array.replicate 1029 none
  statics := none }

def pool22 : Array CpInfo := pool [(2, .class_ 4), (1, u "java/lang/Object"), (0, u "<init>"), (0, u "()V"), (1, .class_ 10), (1, u "java/lang/System"), (0, u "allowSecurityManager"), (0, u "I"), (16, u "cons"), (0, u "Ljava/io/Console;"), (77, .class_ 110), (1, u "java/lang/System$CallersHolder"), (43, u "initialErrStream"), (0, u "Ljava/io/PrintStream;"), (19, u "security"), (0, u "Ljava/lang/SecurityManager;"), (31, .class_ 209), (0, u "java/lang/System$1"), (7, u "props"), (0, u "Ljava/util/Properties;"), (2, u "lineSeparator"), (0, u "Ljava/lang/String;"), (96, .class_ 321), (1, u "java/lang/System$LoggerFinder"), (5, .class_ 328), (0, u "java/lang/System$Logger"), (67, u "err"), (2, u "out"), (91, u "notSupportedJnuEncoding"), (15, u "in"), (17, u "initialIn"), (0, u "Ljava/io/InputStream;"), (35, u "bootLayer"), (0, u "Ljava/lang/ModuleLayer;"), (99, .class_ 664), (0, u "java/lang/System$2"), (9, u "NEVER"), (2, u "MAYBE"), (49, u "arraycopy"), (0, u "(Ljava/lang/Object;ILjava/lang/Object;II)V"), (72, .class_ 802), (0, u "java/lang/System$Logger$Level")] 31

def k22m0 : Method := { name := "<init>", desc := "()V", sig := { parameters := [], returnType := none }, accessFlags := 2, code := none }
def k22m1 : Method := { name := "arraycopy", desc := "(Ljava/lang/Object;ILjava/lang/Object;II)V", sig := { parameters := [(.object "java/lang/Object"), .int, (.object "java/lang/Object"), .int, .int], returnType := none }, accessFlags := 265, code := none }
/-- java/lang/System -/
def k22 : Class := { plain "java/lang/System" (some 0) with
  accessFlags := 49
  interfaces := #[]
  cf := some (fileOf pool22 8 #[.nestMembers #[319, 327, 801, 108, 663, 208]] #[{ accessFlags := 2, nameIndex := 5, descriptorIndex := 6, attributes := #[] }, { accessFlags := 265, nameIndex := 727, descriptorIndex := 728, attributes := #[] }] 49 2 #[] #[{ accessFlags := 25, nameIndex := 507, descriptorIndex := 526, attributes := #[] }, { accessFlags := 25, nameIndex := 399, descriptorIndex := 155, attributes := #[] }, { accessFlags := 25, nameIndex := 396, descriptorIndex := 155, attributes := #[] }, { accessFlags := 10, nameIndex := 525, descriptorIndex := 526, attributes := #[] }, { accessFlags := 26, nameIndex := 674, descriptorIndex := 12, attributes := #[] }, { accessFlags := 26, nameIndex := 677, descriptorIndex := 12, attributes := #[] }, { accessFlags := 10, nameIndex := 11, descriptorIndex := 12, attributes := #[] }, { accessFlags := 74, nameIndex := 175, descriptorIndex := 176, attributes := #[] }, { accessFlags := 10, nameIndex := 491, descriptorIndex := 222, attributes := #[] }, { accessFlags := 74, nameIndex := 29, descriptorIndex := 30, attributes := #[] }, { accessFlags := 74, nameIndex := 154, descriptorIndex := 155, attributes := #[] }, { accessFlags := 10, nameIndex := 217, descriptorIndex := 218, attributes := #[] }, { accessFlags := 10, nameIndex := 221, descriptorIndex := 222, attributes := #[] }, { accessFlags := 8, nameIndex := 562, descriptorIndex := 563, attributes := #[] }])
  fields := #[{ name := "in", type := (.object "java/io/InputStream"), accessFlags := 25, slot := 0, constantValue := 0 }, { name := "out", type := (.object "java/io/PrintStream"), accessFlags := 25, slot := 1, constantValue := 0 }, { name := "err", type := (.object "java/io/PrintStream"), accessFlags := 25, slot := 2, constantValue := 0 }, { name := "initialIn", type := (.object "java/io/InputStream"), accessFlags := 10, slot := 3, constantValue := 0 }, { name := "NEVER", type := .int, accessFlags := 26, slot := 4, constantValue := 0 }, { name := "MAYBE", type := .int, accessFlags := 26, slot := 5, constantValue := 0 }, { name := "allowSecurityManager", type := .int, accessFlags := 10, slot := 6, constantValue := 0 }, { name := "security", type := (.object "java/lang/SecurityManager"), accessFlags := 74, slot := 7, constantValue := 0 }, { name := "notSupportedJnuEncoding", type := (.object "java/lang/String"), accessFlags := 10, slot := 8, constantValue := 0 }, { name := "cons", type := (.object "java/io/Console"), accessFlags := 74, slot := 9, constantValue := 0 }, { name := "initialErrStream", type := (.object "java/io/PrintStream"), accessFlags := 74, slot := 10, constantValue := 0 }, { name := "props", type := (.object "java/util/Properties"), accessFlags := 10, slot := 11, constantValue := 0 }, { name := "lineSeparator", type := (.object "java/lang/String"), accessFlags := 10, slot := 12, constantValue := 0 }, { name := "bootLayer", type := (.object "java/lang/ModuleLayer"), accessFlags := 8, slot := 13, constantValue := 0 }]
  methods := #[k22m0, k22m1]
  instanceTypes := #[]
  staticTypes := #[(.object "java/io/InputStream"), (.object "java/io/PrintStream"), (.object "java/io/PrintStream"), (.object "java/io/InputStream"), .int, .int, .int, (.object "java/lang/SecurityManager"), (.object "java/lang/String"), (.object "java/io/Console"), (.object "java/io/PrintStream"), (.object "java/util/Properties"), (.object "java/lang/String"), (.object "java/lang/ModuleLayer")]
  resolved := Array.replicate 834 none
  statics := none }

def pool23 : Array CpInfo := pool [(2, .class_ 4), (1, u "java/lang/Object"), (0, u "<init>"), (0, u "()V"), (12, .class_ 20), (0, u "java/util/Collections"), (63, u "r"), (0, u "Ljava/util/Random;"), (80, .class_ 167), (0, u "java/util/Collections$UnmodifiableCollection"), (6, .class_ 175), (0, u "java/util/Collections$UnmodifiableSequencedCollection"), (6, .class_ 183), (0, u "java/util/Collections$UnmodifiableSet"), (6, .class_ 191), (0, u "java/util/Collections$UnmodifiableSequencedSet"), (6, .class_ 199), (0, u "java/util/Collections$UnmodifiableSortedSet"), (6, .class_ 207), (0, u "java/util/Collections$UnmodifiableNavigableSet"), (4, .class_ 213), (0, u "java/util/Collections$UnmodifiableList"), (1, .class_ 216), (0, u "java/util/Collections$UnmodifiableRandomAccessList"), (6, .class_ 224), (0, u "java/util/Collections$UnmodifiableMap"), (6, .class_ 232), (0, u "java/util/Collections$UnmodifiableSequencedMap"), (4, .class_ 238), (0, u "java/util/Collections$UnmodifiableSortedMap"), (6, .class_ 246), (0, u "java/util/Collections$UnmodifiableNavigableMap"), (3, .class_ 251), (0, u "java/util/Collections$SynchronizedCollection"), (4, .class_ 257), (0, u "java/util/Collections$SynchronizedSet"), (4, .class_ 263), (0, u "java/util/Collections$SynchronizedSortedSet"), (1, .class_ 266), (0, u "java/util/Collections$SynchronizedNavigableSet"), (1, .class_ 269), (0, u "java/util/Collections$SynchronizedRandomAccessList"), (1, .class_ 272), (0, u "java/util/Collections$SynchronizedList"), (5, .class_ 279), (0, u "java/util/Collections$SynchronizedMap"), (1, .class_ 282), (0, u "java/util/Collections$SynchronizedSortedMap"), (1, .class_ 285), (0, u "java/util/Collections$SynchronizedNavigableMap"), (1, .class_ 288), (0, u "java/util/Collections$CheckedCollection"), (11, .class_ 301), (0, u "java/util/Collections$CheckedQueue"), (3, .class_ 306), (0, u "java/util/Collections$CheckedSet"), (3, .class_ 311), (0, u "java/util/Collections$CheckedSortedSet"), (3, .class_ 316), (0, u "java/util/Collections$CheckedNavigableSet"), (3, .class_ 321), (0, u "java/util/Collections$CheckedRandomAccessList"), (3, .class_ 326), (0, u "java/util/Collections$CheckedList"), (1, .class_ 329), (0, u "java/util/Collections$CheckedMap"), (3, .class_ 334), (0, u "java/util/Collections$CheckedSortedMap"), (3, .class_ 339), (0, u "java/util/Collections$CheckedNavigableMap"), (4, .class_ 346), (1, u "java/util/Collections$EmptyIterator"), (3, .class_ 352), (1, u "java/util/Collections$EmptyListIterator"), (2, .class_ 357), (1, u "java/util/Collections$EmptyEnumeration"), (4, u "EMPTY_SET"), (0, u "Ljava/util/Set;"), (6, u "EMPTY_LIST"), (0, u "Ljava/util/List;"), (2, u "EMPTY_MAP"), (0, u "Ljava/util/Map;"), (4, .class_ 381), (0, u "java/util/Collections$SingletonSet"), (2, .class_ 385), (0, u "java/util/Collections$1"), (1, .class_ 388), (0, u "java/util/Collections$2"), (1, .class_ 391), (0, u "java/util/Collections$SingletonList"), (1, .class_ 394), (0, u "java/util/Collections$SingletonMap"), (22, .class_ 418), (0, u "java/util/Collections$CopiesList"), (4, .class_ 425), (1, u "java/util/Collections$ReverseComparator"), (8, .class_ 435), (0, u "java/util/Collections$ReverseComparator2"), (6, .class_ 443), (0, u "java/util/Collections$3"), (25, .class_ 470), (0, u "java/util/Collections$SetFromMap"), (2, .class_ 474), (0, u "java/util/Collections$SequencedSetFromMap"), (3, .class_ 479), (0, u "java/util/Collections$AsLIFOQueue"), (11, .class_ 492), (0, u "java/util/Collections$EmptySet"), (1, .class_ 495), (0, u "java/util/Collections$EmptyList"), (1, .class_ 498), (0, u "java/util/Collections$EmptyMap"), (1, u "BINARYSEARCH_THRESHOLD"), (0, u "I"), (2, u "REVERSE_THRESHOLD"), (1, u "SHUFFLE_THRESHOLD"), (1, u "FILL_THRESHOLD"), (1, u "ROTATE_THRESHOLD"), (1, u "COPY_THRESHOLD"), (1, u "REPLACEALL_THRESHOLD"), (1, u "INDEXOFSUBLIST_THRESHOLD"), (333, .class_ 851), (0, u "java/util/Collections$CheckedMap$CheckedEntrySet"), (0, .class_ 853), (0, u "java/util/Collections$CheckedMap$CheckedEntrySet$CheckedEntry"), (0, .class_ 855), (0, u "java/util/Collections$CheckedMap$CheckedEntrySet$1"), (0, .class_ 857), (0, u "java/util/Collections$CheckedList$1"), (0, .class_ 859), (0, u "java/util/Collections$CheckedCollection$1"), (0, .class_ 861), (0, u "java/util/Collections$UnmodifiableNavigableMap$EmptyNavigableMap"), (0, .class_ 863), (0, u "java/util/Collections$UnmodifiableMap$UnmodifiableEntrySet"), (0, .class_ 865), (0, u "java/util/Collections$UnmodifiableMap$UnmodifiableEntrySet$UnmodifiableEntry"), (0, .class_ 867), (0, u "java/util/Collections$UnmodifiableMap$UnmodifiableEntrySet$UnmodifiableEntrySetSpliterator"), (0, .class_ 869), (0, u "java/util/Collections$UnmodifiableMap$UnmodifiableEntrySet$1"), (0, .class_ 871), (0, u "java/util/Collections$UnmodifiableList$1"), (0, .class_ 873), (0, u "java/util/Collections$UnmodifiableNavigableSet$EmptyNavigableSet"), (0, .class_ 875), (0, u "java/util/Collections$UnmodifiableCollection$1")] 57

def k23m0 : Method := { name := "<init>", desc := "()V", sig := { parameters := [], returnType := none }, accessFlags := 2, code := none }
/-- java/util/Collections -/
def k23 : Class := { plain "java/util/Collections" (some 0) with
  accessFlags := 33
  interfaces := #[]
  cf := some (fileOf pool23 19 #[.nestMembers #[478, 473, 469, 434, 423, 417, 393, 390, 380, 497, 494, 491, 355, 350, 344, 338, 333, 328, 850, 852, 854, 320, 325, 856, 315, 310, 305, 300, 287, 858, 284, 281, 278, 268, 271, 265, 262, 256, 250, 245, 860, 237, 231, 223, 862, 864, 866, 868, 215, 212, 870, 206, 872, 198, 190, 182, 174, 166, 874, 442, 387, 384]] #[{ accessFlags := 2, nameIndex := 5, descriptorIndex := 6, attributes := #[] }] 33 2 #[] #[{ accessFlags := 26, nameIndex := 500, descriptorIndex := 501, attributes := #[] }, { accessFlags := 26, nameIndex := 504, descriptorIndex := 501, attributes := #[] }, { accessFlags := 26, nameIndex := 506, descriptorIndex := 501, attributes := #[] }, { accessFlags := 26, nameIndex := 508, descriptorIndex := 501, attributes := #[] }, { accessFlags := 26, nameIndex := 510, descriptorIndex := 501, attributes := #[] }, { accessFlags := 26, nameIndex := 512, descriptorIndex := 501, attributes := #[] }, { accessFlags := 26, nameIndex := 514, descriptorIndex := 501, attributes := #[] }, { accessFlags := 26, nameIndex := 516, descriptorIndex := 501, attributes := #[] }, { accessFlags := 10, nameIndex := 84, descriptorIndex := 85, attributes := #[] }, { accessFlags := 25, nameIndex := 362, descriptorIndex := 363, attributes := #[] }, { accessFlags := 25, nameIndex := 370, descriptorIndex := 371, attributes := #[] }, { accessFlags := 25, nameIndex := 374, descriptorIndex := 375, attributes := #[] }])
  fields := #[{ name := "BINARYSEARCH_THRESHOLD", type := .int, accessFlags := 26, slot := 0, constantValue := 0 }, { name := "REVERSE_THRESHOLD", type := .int, accessFlags := 26, slot := 1, constantValue := 0 }, { name := "SHUFFLE_THRESHOLD", type := .int, accessFlags := 26, slot := 2, constantValue := 0 }, { name := "FILL_THRESHOLD", type := .int, accessFlags := 26, slot := 3, constantValue := 0 }, { name := "ROTATE_THRESHOLD", type := .int, accessFlags := 26, slot := 4, constantValue := 0 }, { name := "COPY_THRESHOLD", type := .int, accessFlags := 26, slot := 5, constantValue := 0 }, { name := "REPLACEALL_THRESHOLD", type := .int, accessFlags := 26, slot := 6, constantValue := 0 }, { name := "INDEXOFSUBLIST_THRESHOLD", type := .int, accessFlags := 26, slot := 7, constantValue := 0 }, { name := "r", type := (.object "java/util/Random"), accessFlags := 10, slot := 8, constantValue := 0 }, { name := "EMPTY_SET", type := (.object "java/util/Set"), accessFlags := 25, slot := 9, constantValue := 0 }, { name := "EMPTY_LIST", type := (.object "java/util/List"), accessFlags := 25, slot := 10, constantValue := 0 }, { name := "EMPTY_MAP", type := (.object "java/util/Map"), accessFlags := 25, slot := 11, constantValue := 0 }]
  methods := #[k23m0]
  instanceTypes := #[]
  staticTypes := #[.int, .int, .int, .int, .int, .int, .int, .int, (.object "java/util/Random"), (.object "java/util/Set"), (.object "java/util/List"), (.object "java/util/Map")]
  resolved := Array.replicate 933 none
  statics := some 4 }

def pool24 : Array CpInfo := pool [(8, .class_ 10), (1, u "java/lang/Iterable"), (24, .class_ 36), (0, u "java/lang/Object")] 25

/-- java/lang/Iterable -/
def k24 : Class := { plain "java/lang/Iterable" (some 0) with
  accessFlags := 1537
  interfaces := #[]
  cf := some (fileOf pool24 8 #[] #[] 1537 35 #[] #[])
  fields := #[]
  methods := #[]
  instanceTypes := #[]
  staticTypes := #[]
  resolved := Array.replicate 62 none
  statics := none }

def pool25 : Array CpInfo := pool [(10, .class_ 12), (1, u "java/util/Collection"), (47, .class_ 61), (0, u "java/lang/Object"), (0, .class_ 63), (0, u "java/lang/Iterable")] 51

/-- java/util/Collection -/
def k25 : Class := { plain "java/util/Collection" (some 0) with
  accessFlags := 1537
  interfaces := #[24]
  cf := some (fileOf pool25 10 #[] #[] 1537 60 #[62] #[])
  fields := #[]
  methods := #[]
  instanceTypes := #[]
  staticTypes := #[]
  resolved := Array.replicate 115 none
  statics := none }

def pool26 : Array CpInfo := pool [(2, .class_ 4), (1, u "java/lang/Object"), (0, u "<init>"), (0, u "()V"), (1, .class_ 10), (1, u "java/util/AbstractCollection"), (66, .class_ 78), (0, u "java/util/Collection")] 81

def k26m0 : Method := { name := "<init>", desc := "()V", sig := { parameters := [], returnType := none }, accessFlags := 4, code := none }
/-- java/util/AbstractCollection -/
def k26 : Class := { plain "java/util/AbstractCollection" (some 0) with
  accessFlags := 1057
  interfaces := #[25]
  cf := some (fileOf pool26 8 #[] #[{ accessFlags := 4, nameIndex := 5, descriptorIndex := 6, attributes := #[] }] 1057 2 #[77] #[])
  fields := #[]
  methods := #[k26m0]
  instanceTypes := #[]
  staticTypes := #[]
  resolved := Array.replicate 160 none
  statics := none }

def pool27 : Array CpInfo := pool [(8, .class_ 10), (1, u "java/util/SequencedCollection"), (15, .class_ 27), (0, u "java/lang/Object"), (0, .class_ 29), (0, u "java/util/Collection")] 27

/-- java/util/SequencedCollection -/
def k27 : Class := { plain "java/util/SequencedCollection" (some 0) with
  accessFlags := 1537
  interfaces := #[25]
  cf := some (fileOf pool27 8 #[] #[] 1537 26 #[28] #[])
  fields := #[]
  methods := #[]
  instanceTypes := #[]
  staticTypes := #[]
  resolved := Array.replicate 57 none
  statics := none }

def pool28 : Array CpInfo := pool [(8, .class_ 10), (1, u "java/util/List"), (92, .class_ 104), (0, u "java/lang/Object"), (15, .class_ 121), (0, u "java/util/SequencedCollection")] 129

/-- java/util/List -/
def k28 : Class := { plain "java/util/List" (some 0) with
  accessFlags := 1537
  interfaces := #[27]
  cf := some (fileOf pool28 8 #[] #[] 1537 103 #[120] #[])
  fields := #[]
  methods := #[]
  instanceTypes := #[]
  staticTypes := #[]
  resolved := Array.replicate 251 none
  statics := none }

def pool29 : Array CpInfo := pool [(2, .class_ 4), (1, u "java/util/AbstractCollection"), (0, u "<init>"), (0, u "()V"), (1, .class_ 10), (1, u "java/util/AbstractList"), (0, u "modCount"), (0, u "I"), (64, .class_ 78), (0, u "java/util/AbstractList$Itr"), (3, .class_ 83), (0, u "java/util/AbstractList$ListItr"), (9, .class_ 94), (0, u "java/util/AbstractList$RandomAccessSubList"), (3, .class_ 99), (0, u "java/util/AbstractList$SubList"), (33, .class_ 134), (0, u "java/util/List"), (73, .class_ 209), (0, u "java/util/AbstractList$SubList$1"), (0, .class_ 211), (0, u "java/util/AbstractList$RandomAccessSpliterator")] 6

def k29m0 : Method := { name := "<init>", desc := "()V", sig := { parameters := [], returnType := none }, accessFlags := 4, code := none }
/-- java/util/AbstractList -/
def k29 : Class := { plain "java/util/AbstractList" (some 26) with
  accessFlags := 1057
  interfaces := #[28]
  cf := some (fileOf pool29 8 #[.nestMembers #[93, 98, 208, 210, 82, 77]] #[{ accessFlags := 4, nameIndex := 5, descriptorIndex := 6, attributes := #[] }] 1057 2 #[133] #[{ accessFlags := 132, nameIndex := 11, descriptorIndex := 12, attributes := #[] }])
  fields := #[{ name := "modCount", type := .int, accessFlags := 132, slot := 0, constantValue := 0 }]
  methods := #[k29m0]
  instanceTypes := #[.int]
  staticTypes := #[]
  resolved := Array.replicate 218 none
  statics := none }

def pool30 : Array CpInfo := pool [(1, .class_ 2), (0, u "java/util/RandomAccess"), (0, .class_ 4), (0, u "java/lang/Object")] 2

/-- java/util/RandomAccess -/
def k30 : Class := { plain "java/util/RandomAccess" (some 0) with
  accessFlags := 1537
  interfaces := #[]
  cf := some (fileOf pool30 1 #[] #[] 1537 3 #[] #[])
  fields := #[]
  methods := #[]
  instanceTypes := #[]
  staticTypes := #[]
  resolved := Array.replicate 7 none
  statics := none }

def pool31 : Array CpInfo := pool [(2, .class_ 4), (1, u "java/util/AbstractList"), (0, u "<init>"), (0, u "()V"), (1, .class_ 10), (1, u "java/util/Collections"), (54, .class_ 66), (0, u "java/util/Collections$EmptyList"), (0, .class_ 68), (0, u "java/util/RandomAccess"), (0, .class_ 70), (0, u "java/io/Serializable"), (0, u "serialVersionUID"), (0, u "J")] 77

def k31m0 : Method := { name := "<init>", desc := "()V", sig := { parameters := [], returnType := none }, accessFlags := 2, code := none }
/-- java/util/Collections$EmptyList -/
def k31 : Class := { plain "java/util/Collections$EmptyList" (some 29) with
  accessFlags := 32
  interfaces := #[30, 2]
  cf := some (fileOf pool31 65 #[.nestHost 8] #[{ accessFlags := 2, nameIndex := 5, descriptorIndex := 6, attributes := #[] }] 32 2 #[67, 69] #[{ accessFlags := 26, nameIndex := 71, descriptorIndex := 72, attributes := #[] }])
  fields := #[{ name := "serialVersionUID", type := .long, accessFlags := 26, slot := 0, constantValue := 0 }]
  methods := #[k31m0]
  instanceTypes := #[.int]
  staticTypes := #[.long]
  resolved := Array.replicate 150 none
  statics := none }

def pool32 : Array CpInfo := pool [(2, .class_ 4), (1, u "java/lang/StackTraceElement"), (0, u "<init>"), (2, .class_ 10), (1, u "java/lang/Object"), (0, u "()V"), (2, u "format"), (0, u "B"), (2, u "classLoaderName"), (0, u "Ljava/lang/String;"), (2, u "moduleName"), (2, u "moduleVersion"), (12, u "declaringClass"), (4, u "methodName"), (2, u "fileName"), (2, u "lineNumber"), (0, u "I"), (65, u "declaringClassObject"), (0, u "Ljava/lang/Class;"), (33, .class_ 153), (1, u "java/lang/StackTraceElement$HashedModules"), (17, .class_ 172), (0, u "java/io/Serializable"), (0, u "NATIVE_METHOD"), (1, u "UNKNOWN_SOURCE"), (2, u "BUILTIN_CLASS_LOADER"), (1, u "JDK_NON_UPGRADEABLE_MODULE"), (1, u "serialVersionUID"), (0, u "J")] 51

def k32m0 : Method := { name := "<init>", desc := "()V", sig := { parameters := [], returnType := none }, accessFlags := 2, code := none }
/-- java/lang/StackTraceElement -/
def k32 : Class := { plain "java/lang/StackTraceElement" (some 0) with
  accessFlags := 49
  interfaces := #[2]
  cf := some (fileOf pool32 2 #[.nestMembers #[151]] #[{ accessFlags := 2, nameIndex := 5, descriptorIndex := 11, attributes := #[] }] 49 8 #[171] #[{ accessFlags := 26, nameIndex := 173, descriptorIndex := 19, attributes := #[] }, { accessFlags := 26, nameIndex := 175, descriptorIndex := 19, attributes := #[] }, { accessFlags := 130, nameIndex := 116, descriptorIndex := 117, attributes := #[] }, { accessFlags := 2, nameIndex := 18, descriptorIndex := 19, attributes := #[] }, { accessFlags := 2, nameIndex := 22, descriptorIndex := 19, attributes := #[] }, { accessFlags := 2, nameIndex := 25, descriptorIndex := 19, attributes := #[] }, { accessFlags := 2, nameIndex := 38, descriptorIndex := 19, attributes := #[] }, { accessFlags := 2, nameIndex := 43, descriptorIndex := 19, attributes := #[] }, { accessFlags := 2, nameIndex := 46, descriptorIndex := 19, attributes := #[] }, { accessFlags := 2, nameIndex := 49, descriptorIndex := 50, attributes := #[] }, { accessFlags := 2, nameIndex := 14, descriptorIndex := 15, attributes := #[] }, { accessFlags := 26, nameIndex := 178, descriptorIndex := 15, attributes := #[] }, { accessFlags := 26, nameIndex := 180, descriptorIndex := 15, attributes := #[] }, { accessFlags := 26, nameIndex := 182, descriptorIndex := 183, attributes := #[] }])
  fields := #[{ name := "NATIVE_METHOD", type := (.object "java/lang/String"), accessFlags := 26, slot := 0, constantValue := 0 }, { name := "UNKNOWN_SOURCE", type := (.object "java/lang/String"), accessFlags := 26, slot := 1, constantValue := 0 }, { name := "declaringClassObject", type := (.object "java/lang/Class"), accessFlags := 130, slot := 0, constantValue := 0 }, { name := "classLoaderName", type := (.object "java/lang/String"), accessFlags := 2, slot := 1, constantValue := 0 }, { name := "moduleName", type := (.object "java/lang/String"), accessFlags := 2, slot := 2, constantValue := 0 }, { name := "moduleVersion", type := (.object "java/lang/String"), accessFlags := 2, slot := 3, constantValue := 0 }, { name := "declaringClass", type := (.object "java/lang/String"), accessFlags := 2, slot := 4, constantValue := 0 }, { name := "methodName", type := (.object "java/lang/String"), accessFlags := 2, slot := 5, constantValue := 0 }, { name := "fileName", type := (.object "java/lang/String"), accessFlags := 2, slot := 6, constantValue := 0 }, { name := "lineNumber", type := .int, accessFlags := 2, slot := 7, constantValue := 0 }, { name := "format", type := .byte, accessFlags := 2, slot := 8, constantValue := 0 }, { name := "BUILTIN_CLASS_LOADER", type := .byte, accessFlags := 26, slot := 2, constantValue := 0 }, { name := "JDK_NON_UPGRADEABLE_MODULE", type := .byte, accessFlags := 26, slot := 3, constantValue := 0 }, { name := "serialVersionUID", type := .long, accessFlags := 26, slot := 4, constantValue := 0 }]
  methods := #[k32m0]
  instanceTypes := #[(.object "java/lang/Class"), (.object "java/lang/String"), (.object "java/lang/String"), (.object "java/lang/String"), (.object "java/lang/String"), (.object "java/lang/String"), (.object "java/lang/String"), .int, .byte]
  staticTypes := #[(.object "java/lang/String"), (.object "java/lang/String"), .byte, .byte, .long]
  resolved := Array.replicate 235 none
  statics := none }

def pool33 : Array CpInfo := pool [(1, u "java/lang/Cloneable"), (0, .class_ 1), (0, u "java/lang/Object"), (0, .class_ 3)] 3

/-- java/lang/Cloneable -/
def k33 : Class := { plain "java/lang/Cloneable" (some 0) with
  accessFlags := 1537
  interfaces := #[]
  cf := some (fileOf pool33 2 #[] #[] 1537 4 #[] #[])
  fields := #[]
  methods := #[]
  instanceTypes := #[]
  staticTypes := #[]
  resolved := Array.replicate 8 none
  statics := none }

/-- the primitive byte -/
def k34 : Class := { plain "byte" none with kind := .primitive 'B', accessFlags := 0x411 }
/-- [B -/
def k35 : Class := { plain "[B" (some 0) with kind := .array 34 .byte, interfaces := #[33, 2], accessFlags := 1041 }

/-- the primitive char -/
def k36 : Class := { plain "char" none with kind := .primitive 'C', accessFlags := 0x411 }
/-- [C -/
def k37 : Class := { plain "[C" (some 0) with kind := .array 36 .char, interfaces := #[33, 2], accessFlags := 1041 }

/-- the primitive int -/
def k38 : Class := { plain "int" none with kind := .primitive 'I', accessFlags := 0x411 }
/-- [I -/
def k39 : Class := { plain "[I" (some 0) with kind := .array 38 .int, interfaces := #[33, 2], accessFlags := 1041 }

/-- [Ljava/lang/Object; -/
def k40 : Class := { plain "[Ljava/lang/Object;" (some 0) with kind := .array 0 (.object "java/lang/Object"), interfaces := #[33, 2], accessFlags := 1041 }

/-- [Ljava/lang/StackTraceElement; -/
def k41 : Class := { plain "[Ljava/lang/StackTraceElement;" (some 0) with kind := .array 32 (.object "java/lang/StackTraceElement"), interfaces := #[33, 2], accessFlags := 1041 }

/-- [Ljava/lang/Throwable; -/
def k42 : Class := { plain "[Ljava/lang/Throwable;" (some 0) with kind := .array 12 (.object "java/lang/Throwable"), interfaces := #[33, 2], accessFlags := 1041 }

def heap : Heap := #[{ cls := 7, slots := #[.long 0, .int 1, .null, .int 0, .null, .int 0, .int 0], vm := .statics 7 },
  { cls := 9, slots := #[.null, .null, .null], vm := .statics 9 },
  { cls := 10, slots := #[.int 0, .int 8, .int 0, .int 1], vm := .statics 10 },
  { cls := 12, slots := #[.long 0, .ref 5, .ref 6, .null, .null, .null, .null, .ref 7, .int 1], vm := .statics 12 },
  { cls := 23, slots := #[.int 0, .int 0, .int 0, .int 0, .int 0, .int 0, .int 0, .int 0, .null, .null, .ref 6, .null], vm := .statics 23 },
  { cls := 41, slots := #[], vm := .none },
  { cls := 31, slots := #[.int 0], vm := .none },
  { cls := 42, slots := #[], vm := .none }]
def classes : Array Class := #[k0, k1, k2, k3, k4, k5, k6, k7, k8, k9, k10, k11, k12, k13, k14, k15, k16, k17, k18, k19, k20, k21, k22, k23, k24, k25, k26, k27, k28, k29, k30, k31, k32, k33, k34, k35, k36, k37, k38, k39, k40, k41, k42]
def interned : List (Array UInt16 × Addr) := []
def slotsUsed : Nat := 36
def theMethod : MethodId := ⟨1, 1⟩
def args0 : Array Value := #[.int 1, .int 2, .int 3, .int 4]
def aboutOver (below : List Frame) : State where
  vm := { classes := classes, interned := interned.toArray }
  heap := heap
  slotsUsed := slotsUsed
  threads := #[{ frames := .invoking theMethod args0 :: below }]
def below0 : List Frame := [.native { method := ⟨0, 0⟩, args := #[] }]
def about1 : State := aboutOver below0
def p0 : Program := .bare "" "" ""
def e0 : Env := launch0.env 0 0 0
theorem w_frames : about1.frames = Frame.invoking theMethod args0 :: below0 := rfl
set_option maxRecDepth 65536 in
theorem w_args : argsFit about1.vm theMethod args0 = true := by decide +kernel
set_option maxRecDepth 65536 in
theorem w_heap : heapFits about1 = true := by decide +kernel
set_option maxRecDepth 65536 in
theorem w_runnable : about1.curStatus? = some .runnable := by decide +kernel
set_option maxRecDepth 65536 in
theorem w_alone : about1.alone = true := by decide +kernel
set_option maxRecDepth 65536 in
theorem w_named : about1.methodNamed? x = some theMethod := by decide +kernel
set_option maxRecDepth 65536 in
theorem w_hears : about1.hears theMethod below0 = true := by decide +kernel
set_option maxRecDepth 65536 in
theorem w_ripe : about1.ripe theMethod args0 below0 = true := by decide +kernel
theorem w_running : about1.status = .running := rfl
set_option maxRecDepth 65536 in
theorem w_room : about1.hasRoom e0.platform room_1 = true :=
  launch0.hasRoom_least _ room_1 (by decide +kernel) (by decide +kernel) (by decide +kernel) (by decide +kernel) (by decide +kernel) (by decide +kernel)
theorem allAtoms_all (ts : List Jvm.Cond) (a : Array Jvm.Value) (st : Jvm.State) : (allAtoms ts).before a st = ts.all (fun c => c.before a st) := by
  induction ts with
  | nil => rfl
  | cons c t ih =>
    show (Jvm.Cond.and c (allAtoms t)).before a st = _
    rw [Jvm.Cond.before_and, ih, List.all_cons]
def words1 : List Jvm.Cond := Jvm.Cond.code x code maxLocals ret :: tables_1
/-- a 'code' word, met by the world's own term for the bytes: nothing is compared byte by byte -/
theorem code_word {y : MethodName} {bytes : ByteArray} {mx : Nat} {rt : Option FieldType} {a : Array Value} {s : State} {m : MethodId} {meth : Method} {c : Code} (h1 : s.methodNamed? y = some m) (h2 : s.vm.method? m = some meth) (h3 : meth.code = some c) (h4 : c.code = bytes)
    (h5 : (c.maxLocals == mx && c.exceptionTable.isEmpty && decide (c.maxStack ≤ mostOperands) && decide (meth.sig.returnType = rt) && !meth.locks && decide (parseMethodDescriptor y.desc = some meth.sig)) = true) : (Jvm.Cond.code y bytes mx rt).before a s = true := by
  simp only [Bool.and_eq_true, beq_iff_eq, Bool.not_eq_true', decide_eq_true_eq] at h5
  obtain ⟨⟨⟨⟨⟨g1, g2⟩, g3⟩, g4⟩, g5⟩, g6⟩ := h5
  simp [Cond.before, Cond.holds, Cond.value, h1, h2, h3, h4, g1, g2, g3, g4, g5, g6]
def isCode : Jvm.Cond → Bool
  | .code _ _ _ _ => true
  | _ => false
theorem all_split {L : List Jvm.Cond} {P : Jvm.Cond → Bool} (h1 : L.all (fun c => isCode c || P c) = true) (h2 : ∀ c ∈ L.filter isCode, P c = true) : L.all P = true := by
  refine List.all_eq_true.mpr fun c hc => ?_
  have h := List.all_eq_true.mp h1 c hc
  rcases Bool.eq_false_or_eq_true (isCode c) with hi | hi
  · exact h2 c (List.mem_filter.mpr ⟨hc, hi⟩)
  · simpa [hi] using h
set_option maxRecDepth 65536 in
theorem w_c0 : (Jvm.Cond.code x code maxLocals ret).before args0 about1 = true := code_word (m := ⟨1, 1⟩) (meth := k1m1) (c := k1c1) (by decide +kernel) rfl rfl rfl (by decide +kernel)
set_option maxRecDepth 65536 in
theorem w_c1 : (Jvm.Cond.code ({ cls := "java/lang/String", name := "<init>", desc := "([C)V" } : Jvm.MethodName) jdk_42_method_3_code (2 : Nat) (Option.none : Option Jvm.ClassFile.FieldType)).before args0 about1 = true := code_word (m := ⟨7, 1⟩) (meth := k7m1) (c := k7c1) (by decide +kernel) rfl rfl rfl (by decide +kernel)
set_option maxRecDepth 65536 in
theorem w_c2 : (Jvm.Cond.code ({ cls := "java/lang/String", name := "<init>", desc := "([CIILjava/lang/Void;)V" } : Jvm.MethodName) jdk_42_method_149_code (6 : Nat) (Option.none : Option Jvm.ClassFile.FieldType)).before args0 about1 = true := code_word (m := ⟨7, 7⟩) (meth := k7m7) (c := k7c7) (by decide +kernel) rfl rfl rfl (by decide +kernel)
set_option maxRecDepth 65536 in
theorem w_c3 : (Jvm.Cond.code ({ cls := "java/lang/Object", name := "<init>", desc := "()V" } : Jvm.MethodName) object_method_1_code (1 : Nat) (Option.none : Option Jvm.ClassFile.FieldType)).before args0 about1 = true := code_word (m := ⟨0, 0⟩) (meth := k0m0) (c := k0c0) (by decide +kernel) rfl rfl rfl (by decide +kernel)
set_option maxRecDepth 65536 in
theorem w_c4 : (Jvm.Cond.code ({ cls := "java/lang/String", name := "charAt", desc := "(I)C" } : Jvm.MethodName) jdk_42_method_56_code (2 : Nat) (Option.some Jvm.ClassFile.FieldType.char)).before args0 about1 = true := code_word (m := ⟨7, 4⟩) (meth := k7m4) (c := k7c4) (by decide +kernel) rfl rfl rfl (by decide +kernel)
set_option maxRecDepth 65536 in
theorem w_c5 : (Jvm.Cond.code ({ cls := "java/lang/String", name := "isLatin1", desc := "()Z" } : Jvm.MethodName) jdk_42_method_154_code (1 : Nat) (Option.some Jvm.ClassFile.FieldType.boolean)).before args0 about1 = true := code_word (m := ⟨7, 10⟩) (meth := k7m10) (c := k7c10) (by decide +kernel) rfl rfl rfl (by decide +kernel)
set_option maxRecDepth 65536 in
theorem w_c6 : (Jvm.Cond.code ({ cls := "java/lang/StringLatin1", name := "charAt", desc := "([BI)C" } : Jvm.MethodName) jdk_43_method_2_code (2 : Nat) (Option.some Jvm.ClassFile.FieldType.char)).before args0 about1 = true := code_word (m := ⟨8, 1⟩) (meth := k8m1) (c := k8c1) (by decide +kernel) rfl rfl rfl (by decide +kernel)
set_option maxRecDepth 65536 in
theorem w_c7 : (Jvm.Cond.code ({ cls := "java/lang/String", name := "checkIndex", desc := "(II)V" } : Jvm.MethodName) jdk_42_method_155_code (2 : Nat) (Option.none : Option Jvm.ClassFile.FieldType)).before args0 about1 = true := code_word (m := ⟨7, 11⟩) (meth := k7m11) (c := k7c11) (by decide +kernel) rfl rfl rfl (by decide +kernel)
set_option maxRecDepth 65536 in
theorem w_c8 : (Jvm.Cond.code ({ cls := "jdk/internal/util/Preconditions", name := "checkIndex", desc := "(IILjava/util/function/BiFunction;)I" } : Jvm.MethodName) jdk_41_method_11_code (3 : Nat) (Option.some Jvm.ClassFile.FieldType.int)).before args0 about1 = true := code_word (m := ⟨9, 1⟩) (meth := k9m1) (c := k9c1) (by decide +kernel) rfl rfl rfl (by decide +kernel)
set_option maxRecDepth 65536 in
theorem w_c9 : (Jvm.Cond.code ({ cls := "java/lang/StringUTF16", name := "compress", desc := "([CII)[B" } : Jvm.MethodName) jdk_52_method_16_code (6 : Nat) (Option.some (Jvm.ClassFile.FieldType.array Jvm.ClassFile.FieldType.byte))).before args0 about1 = true := code_word (m := ⟨10, 8⟩) (meth := k10m8) (c := k10c8) (by decide +kernel) rfl rfl rfl (by decide +kernel)
set_option maxRecDepth 65536 in
theorem w_c10 : (Jvm.Cond.code ({ cls := "java/lang/StringUTF16", name := "compress", desc := "([CI[BII)I" } : Jvm.MethodName) jdk_52_method_21_code (7 : Nat) (Option.some Jvm.ClassFile.FieldType.int)).before args0 about1 = true := code_word (m := ⟨10, 9⟩) (meth := k10m9) (c := k10c9) (by decide +kernel) rfl rfl rfl (by decide +kernel)
set_option maxRecDepth 65536 in
theorem w_c11 : (Jvm.Cond.code ({ cls := "java/lang/StringUTF16", name := "coderFromArrayLen", desc := "([BI)B" } : Jvm.MethodName) jdk_52_method_15_code (2 : Nat) (Option.some Jvm.ClassFile.FieldType.byte)).before args0 about1 = true := code_word (m := ⟨10, 7⟩) (meth := k10m7) (c := k10c7) (by decide +kernel) rfl rfl rfl (by decide +kernel)
set_option maxRecDepth 65536 in
theorem w_c12 : (Jvm.Cond.code ({ cls := "com/example/ceresio/ceresio/StateFormat", name := "malformed", desc := "(Ljava/lang/String;)Ljava/lang/IllegalArgumentException;" } : Jvm.MethodName) prog_11_method_3_code (1 : Nat) (Option.some (Jvm.ClassFile.FieldType.object "java/lang/IllegalArgumentException"))).before args0 about1 = true := code_word (m := ⟨11, 1⟩) (meth := k11m1) (c := k11c1) (by decide +kernel) rfl rfl rfl (by decide +kernel)
set_option maxRecDepth 65536 in
theorem w_c13 : (Jvm.Cond.code ({ cls := "java/lang/StringBuilder", name := "<init>", desc := "()V" } : Jvm.MethodName) jdk_67_method_1_code (1 : Nat) (Option.none : Option Jvm.ClassFile.FieldType)).before args0 about1 = true := code_word (m := ⟨18, 0⟩) (meth := k18m0) (c := k18c0) (by decide +kernel) rfl rfl rfl (by decide +kernel)
set_option maxRecDepth 65536 in
theorem w_c14 : (Jvm.Cond.code ({ cls := "java/lang/AbstractStringBuilder", name := "<init>", desc := "(I)V" } : Jvm.MethodName) jdk_68_method_2_code (2 : Nat) (Option.none : Option Jvm.ClassFile.FieldType)).before args0 about1 = true := code_word (m := ⟨17, 1⟩) (meth := k17m1) (c := k17c1) (by decide +kernel) rfl rfl rfl (by decide +kernel)
set_option maxRecDepth 65536 in
theorem w_c15 : (Jvm.Cond.code ({ cls := "java/lang/StringBuilder", name := "append", desc := "(Ljava/lang/String;)Ljava/lang/StringBuilder;" } : Jvm.MethodName) jdk_67_method_7_code (2 : Nat) (Option.some (Jvm.ClassFile.FieldType.object "java/lang/StringBuilder"))).before args0 about1 = true := code_word (m := ⟨18, 1⟩) (meth := k18m1) (c := k18c1) (by decide +kernel) rfl rfl rfl (by decide +kernel)
set_option maxRecDepth 65536 in
theorem w_c16 : (Jvm.Cond.code ({ cls := "java/lang/AbstractStringBuilder", name := "append", desc := "(Ljava/lang/String;)Ljava/lang/AbstractStringBuilder;" } : Jvm.MethodName) jdk_68_method_22_code (3 : Nat) (Option.some (Jvm.ClassFile.FieldType.object "java/lang/AbstractStringBuilder"))).before args0 about1 = true := code_word (m := ⟨17, 6⟩) (meth := k17m6) (c := k17c6) (by decide +kernel) rfl rfl rfl (by decide +kernel)
set_option maxRecDepth 65536 in
theorem w_c17 : (Jvm.Cond.code ({ cls := "java/lang/String", name := "length", desc := "()I" } : Jvm.MethodName) jdk_42_method_54_code (1 : Nat) (Option.some Jvm.ClassFile.FieldType.int)).before args0 about1 = true := code_word (m := ⟨7, 3⟩) (meth := k7m3) (c := k7c3) (by decide +kernel) rfl rfl rfl (by decide +kernel)
set_option maxRecDepth 65536 in
theorem w_c18 : (Jvm.Cond.code ({ cls := "java/lang/String", name := "coder", desc := "()B" } : Jvm.MethodName) jdk_42_method_152_code (1 : Nat) (Option.some Jvm.ClassFile.FieldType.byte)).before args0 about1 = true := code_word (m := ⟨7, 9⟩) (meth := k7m9) (c := k7c9) (by decide +kernel) rfl rfl rfl (by decide +kernel)
set_option maxRecDepth 65536 in
theorem w_c19 : (Jvm.Cond.code ({ cls := "java/lang/AbstractStringBuilder", name := "ensureCapacityInternal", desc := "(I)V" } : Jvm.MethodName) jdk_68_method_9_code (3 : Nat) (Option.none : Option Jvm.ClassFile.FieldType)).before args0 about1 = true := code_word (m := ⟨17, 3⟩) (meth := k17m3) (c := k17c3) (by decide +kernel) rfl rfl rfl (by decide +kernel)
set_option maxRecDepth 65536 in
theorem w_c20 : (Jvm.Cond.code ({ cls := "java/lang/AbstractStringBuilder", name := "newCapacity", desc := "(I)I" } : Jvm.MethodName) jdk_68_method_10_code (6 : Nat) (Option.some Jvm.ClassFile.FieldType.int)).before args0 about1 = true := code_word (m := ⟨17, 4⟩) (meth := k17m4) (c := k17c4) (by decide +kernel) rfl rfl rfl (by decide +kernel)
set_option maxRecDepth 65536 in
theorem w_c21 : (Jvm.Cond.code ({ cls := "jdk/internal/util/ArraysSupport", name := "newLength", desc := "(III)I" } : Jvm.MethodName) jdk_48_method_27_code (4 : Nat) (Option.some Jvm.ClassFile.FieldType.int)).before args0 about1 = true := code_word (m := ⟨19, 1⟩) (meth := k19m1) (c := k19c1) (by decide +kernel) rfl rfl rfl (by decide +kernel)
set_option maxRecDepth 65536 in
theorem w_c22 : (Jvm.Cond.code ({ cls := "java/lang/Math", name := "max", desc := "(II)I" } : Jvm.MethodName) jdk_29_method_65_code (2 : Nat) (Option.some Jvm.ClassFile.FieldType.int)).before args0 about1 = true := code_word (m := ⟨20, 1⟩) (meth := k20m1) (c := k20c1) (by decide +kernel) rfl rfl rfl (by decide +kernel)
set_option maxRecDepth 65536 in
theorem w_c23 : (Jvm.Cond.code ({ cls := "java/util/Arrays", name := "copyOf", desc := "([BI)[B" } : Jvm.MethodName) jdk_65_method_121_code (3 : Nat) (Option.some (Jvm.ClassFile.FieldType.array Jvm.ClassFile.FieldType.byte))).before args0 about1 = true := code_word (m := ⟨21, 1⟩) (meth := k21m1) (c := k21c1) (by decide +kernel) rfl rfl rfl (by decide +kernel)
set_option maxRecDepth 65536 in
theorem w_c24 : (Jvm.Cond.code ({ cls := "java/lang/Math", name := "min", desc := "(II)I" } : Jvm.MethodName) jdk_29_method_69_code (2 : Nat) (Option.some Jvm.ClassFile.FieldType.int)).before args0 about1 = true := code_word (m := ⟨20, 2⟩) (meth := k20m2) (c := k20c2) (by decide +kernel) rfl rfl rfl (by decide +kernel)
set_option maxRecDepth 65536 in
theorem w_c25 : (Jvm.Cond.code ({ cls := "java/lang/AbstractStringBuilder", name := "putStringAt", desc := "(ILjava/lang/String;)V" } : Jvm.MethodName) jdk_68_method_73_code (3 : Nat) (Option.none : Option Jvm.ClassFile.FieldType)).before args0 about1 = true := code_word (m := ⟨17, 11⟩) (meth := k17m11) (c := k17c11) (by decide +kernel) rfl rfl rfl (by decide +kernel)
set_option maxRecDepth 65536 in
theorem w_c26 : (Jvm.Cond.code ({ cls := "java/lang/AbstractStringBuilder", name := "inflateIfNeededFor", desc := "(Ljava/lang/String;)V" } : Jvm.MethodName) jdk_68_method_71_code (2 : Nat) (Option.none : Option Jvm.ClassFile.FieldType)).before args0 about1 = true := code_word (m := ⟨17, 10⟩) (meth := k17m10) (c := k17c10) (by decide +kernel) rfl rfl rfl (by decide +kernel)
set_option maxRecDepth 65536 in
theorem w_c27 : (Jvm.Cond.code ({ cls := "java/lang/String", name := "getBytes", desc := "([BIB)V" } : Jvm.MethodName) jdk_42_method_147_code (4 : Nat) (Option.none : Option Jvm.ClassFile.FieldType)).before args0 about1 = true := code_word (m := ⟨7, 6⟩) (meth := k7m6) (c := k7c6) (by decide +kernel) rfl rfl rfl (by decide +kernel)
set_option maxRecDepth 65536 in
theorem w_c28 : (Jvm.Cond.code ({ cls := "java/lang/StringBuilder", name := "toString", desc := "()Ljava/lang/String;" } : Jvm.MethodName) jdk_67_method_42_code (1 : Nat) (Option.some (Jvm.ClassFile.FieldType.object "java/lang/String"))).before args0 about1 = true := code_word (m := ⟨18, 2⟩) (meth := k18m2) (c := k18c2) (by decide +kernel) rfl rfl rfl (by decide +kernel)
set_option maxRecDepth 65536 in
theorem w_c29 : (Jvm.Cond.code ({ cls := "java/lang/String", name := "<init>", desc := "(Ljava/lang/StringBuilder;)V" } : Jvm.MethodName) jdk_42_method_53_code (2 : Nat) (Option.none : Option Jvm.ClassFile.FieldType)).before args0 about1 = true := code_word (m := ⟨7, 2⟩) (meth := k7m2) (c := k7c2) (by decide +kernel) rfl rfl rfl (by decide +kernel)
set_option maxRecDepth 65536 in
theorem w_c30 : (Jvm.Cond.code ({ cls := "java/lang/String", name := "<init>", desc := "(Ljava/lang/AbstractStringBuilder;Ljava/lang/Void;)V" } : Jvm.MethodName) jdk_42_method_150_code (5 : Nat) (Option.none : Option Jvm.ClassFile.FieldType)).before args0 about1 = true := code_word (m := ⟨7, 8⟩) (meth := k7m8) (c := k7c8) (by decide +kernel) rfl rfl rfl (by decide +kernel)
set_option maxRecDepth 65536 in
theorem w_c31 : (Jvm.Cond.code ({ cls := "java/lang/AbstractStringBuilder", name := "getValue", desc := "()[B" } : Jvm.MethodName) jdk_68_method_64_code (1 : Nat) (Option.some (Jvm.ClassFile.FieldType.array Jvm.ClassFile.FieldType.byte))).before args0 about1 = true := code_word (m := ⟨17, 8⟩) (meth := k17m8) (c := k17c8) (by decide +kernel) rfl rfl rfl (by decide +kernel)
set_option maxRecDepth 65536 in
theorem w_c32 : (Jvm.Cond.code ({ cls := "java/lang/StringBuilder", name := "length", desc := "()I" } : Jvm.MethodName) jdk_67_method_93_code (1 : Nat) (Option.some Jvm.ClassFile.FieldType.int)).before args0 about1 = true := code_word (m := ⟨18, 3⟩) (meth := k18m3) (c := k18c3) (by decide +kernel) rfl rfl rfl (by decide +kernel)
set_option maxRecDepth 65536 in
theorem w_c33 : (Jvm.Cond.code ({ cls := "java/lang/AbstractStringBuilder", name := "length", desc := "()I" } : Jvm.MethodName) jdk_68_method_6_code (1 : Nat) (Option.some Jvm.ClassFile.FieldType.int)).before args0 about1 = true := code_word (m := ⟨17, 2⟩) (meth := k17m2) (c := k17c2) (by decide +kernel) rfl rfl rfl (by decide +kernel)
set_option maxRecDepth 65536 in
theorem w_c34 : (Jvm.Cond.code ({ cls := "java/lang/AbstractStringBuilder", name := "isLatin1", desc := "()Z" } : Jvm.MethodName) jdk_68_method_68_code (1 : Nat) (Option.some Jvm.ClassFile.FieldType.boolean)).before args0 about1 = true := code_word (m := ⟨17, 9⟩) (meth := k17m9) (c := k17c9) (by decide +kernel) rfl rfl rfl (by decide +kernel)
set_option maxRecDepth 65536 in
theorem w_c35 : (Jvm.Cond.code ({ cls := "java/util/Arrays", name := "copyOfRange", desc := "([BII)[B" } : Jvm.MethodName) jdk_65_method_132_code (3 : Nat) (Option.some (Jvm.ClassFile.FieldType.array Jvm.ClassFile.FieldType.byte))).before args0 about1 = true := code_word (m := ⟨21, 3⟩) (meth := k21m3) (c := k21c3) (by decide +kernel) rfl rfl rfl (by decide +kernel)
set_option maxRecDepth 65536 in
theorem w_c36 : (Jvm.Cond.code ({ cls := "java/util/Arrays", name := "copyOfRangeByte", desc := "([BII)[B" } : Jvm.MethodName) jdk_65_method_133_code (5 : Nat) (Option.some (Jvm.ClassFile.FieldType.array Jvm.ClassFile.FieldType.byte))).before args0 about1 = true := code_word (m := ⟨21, 4⟩) (meth := k21m4) (c := k21c4) (by decide +kernel) rfl rfl rfl (by decide +kernel)
set_option maxRecDepth 65536 in
theorem w_c37 : (Jvm.Cond.code ({ cls := "java/util/Arrays", name := "checkLength", desc := "(II)V" } : Jvm.MethodName) jdk_65_method_131_code (2 : Nat) (Option.none : Option Jvm.ClassFile.FieldType)).before args0 about1 = true := code_word (m := ⟨21, 2⟩) (meth := k21m2) (c := k21c2) (by decide +kernel) rfl rfl rfl (by decide +kernel)
set_option maxRecDepth 65536 in
theorem w_c38 : (Jvm.Cond.code ({ cls := "java/lang/IllegalArgumentException", name := "<init>", desc := "(Ljava/lang/String;)V" } : Jvm.MethodName) jdk_57_method_2_code (2 : Nat) (Option.none : Option Jvm.ClassFile.FieldType)).before args0 about1 = true := code_word (m := ⟨15, 1⟩) (meth := k15m1) (c := k15c1) (by decide +kernel) rfl rfl rfl (by decide +kernel)
set_option maxRecDepth 65536 in
theorem w_c39 : (Jvm.Cond.code ({ cls := "java/lang/RuntimeException", name := "<init>", desc := "(Ljava/lang/String;)V" } : Jvm.MethodName) jdk_58_method_2_code (2 : Nat) (Option.none : Option Jvm.ClassFile.FieldType)).before args0 about1 = true := code_word (m := ⟨14, 1⟩) (meth := k14m1) (c := k14c1) (by decide +kernel) rfl rfl rfl (by decide +kernel)
set_option maxRecDepth 65536 in
theorem w_c40 : (Jvm.Cond.code ({ cls := "java/lang/Exception", name := "<init>", desc := "(Ljava/lang/String;)V" } : Jvm.MethodName) jdk_59_method_2_code (2 : Nat) (Option.none : Option Jvm.ClassFile.FieldType)).before args0 about1 = true := code_word (m := ⟨13, 1⟩) (meth := k13m1) (c := k13c1) (by decide +kernel) rfl rfl rfl (by decide +kernel)
set_option maxRecDepth 65536 in
theorem w_c41 : (Jvm.Cond.code ({ cls := "java/lang/Throwable", name := "<init>", desc := "(Ljava/lang/String;)V" } : Jvm.MethodName) jdk_78_method_2_code (2 : Nat) (Option.none : Option Jvm.ClassFile.FieldType)).before args0 about1 = true := code_word (m := ⟨12, 1⟩) (meth := k12m1) (c := k12c1) (by decide +kernel) rfl rfl rfl (by decide +kernel)
set_option maxRecDepth 65536 in
theorem w_c42 : (Jvm.Cond.code ({ cls := "java/lang/Throwable", name := "<init>", desc := "()V" } : Jvm.MethodName) jdk_78_method_1_code (1 : Nat) (Option.none : Option Jvm.ClassFile.FieldType)).before args0 about1 = true := code_word (m := ⟨12, 0⟩) (meth := k12m0) (c := k12c0) (by decide +kernel) rfl rfl rfl (by decide +kernel)
set_option maxRecDepth 65536 in
theorem w_c43 : (Jvm.Cond.code ({ cls := "java/lang/Throwable", name := "getMessage", desc := "()Ljava/lang/String;" } : Jvm.MethodName) jdk_78_method_6_code (1 : Nat) (Option.some (Jvm.ClassFile.FieldType.object "java/lang/String"))).before args0 about1 = true := code_word (m := ⟨12, 2⟩) (meth := k12m2) (c := k12c2) (by decide +kernel) rfl rfl rfl (by decide +kernel)
set_option maxRecDepth 65536 in
theorem w_c44 : (Jvm.Cond.code ({ cls := "java/lang/String", name := "equals", desc := "(Ljava/lang/Object;)Z" } : Jvm.MethodName) jdk_42_method_66_code (3 : Nat) (Option.some Jvm.ClassFile.FieldType.boolean)).before args0 about1 = true := code_word (m := ⟨7, 5⟩) (meth := k7m5) (c := k7c5) (by decide +kernel) rfl rfl rfl (by decide +kernel)
set_option maxRecDepth 65536 in
theorem w_c45 : (Jvm.Cond.code ({ cls := "java/lang/StringLatin1", name := "equals", desc := "([B[B)Z" } : Jvm.MethodName) jdk_43_method_13_code (3 : Nat) (Option.some Jvm.ClassFile.FieldType.boolean)).before args0 about1 = true := code_word (m := ⟨8, 2⟩) (meth := k8m2) (c := k8c2) (by decide +kernel) rfl rfl rfl (by decide +kernel)
set_option maxRecDepth 65536 in
theorem w_c46 : (Jvm.Cond.code ({ cls := "java/lang/AbstractStringBuilder", name := "appendNull", desc := "()Ljava/lang/AbstractStringBuilder;" } : Jvm.MethodName) jdk_68_method_26_code (3 : Nat) (Option.some (Jvm.ClassFile.FieldType.object "java/lang/AbstractStringBuilder"))).before args0 about1 = true := code_word (m := ⟨17, 7⟩) (meth := k17m7) (c := k17c7) (by decide +kernel) rfl rfl rfl (by decide +kernel)
set_option maxRecDepth 65536 in
theorem w_c47 : (Jvm.Cond.code ({ cls := "java/lang/StringUTF16", name := "toBytes", desc := "([CII)[B" } : Jvm.MethodName) jdk_52_method_14_code (5 : Nat) (Option.some (Jvm.ClassFile.FieldType.array Jvm.ClassFile.FieldType.byte))).before args0 about1 = true := code_word (m := ⟨10, 6⟩) (meth := k10m6) (c := k10c6) (by decide +kernel) rfl rfl rfl (by decide +kernel)
set_option maxRecDepth 65536 in
theorem w_c48 : (Jvm.Cond.code ({ cls := "java/lang/StringUTF16", name := "newBytesFor", desc := "(I)[B" } : Jvm.MethodName) jdk_52_method_2_code (1 : Nat) (Option.some (Jvm.ClassFile.FieldType.array Jvm.ClassFile.FieldType.byte))).before args0 about1 = true := code_word (m := ⟨10, 1⟩) (meth := k10m1) (c := k10c1) (by decide +kernel) rfl rfl rfl (by decide +kernel)
set_option maxRecDepth 65536 in
theorem w_c49 : (Jvm.Cond.code ({ cls := "java/lang/StringUTF16", name := "newBytesLength", desc := "(I)I" } : Jvm.MethodName) jdk_52_method_3_code (1 : Nat) (Option.some Jvm.ClassFile.FieldType.int)).before args0 about1 = true := code_word (m := ⟨10, 2⟩) (meth := k10m2) (c := k10c2) (by decide +kernel) rfl rfl rfl (by decide +kernel)
set_option maxRecDepth 65536 in
theorem w_c50 : (Jvm.Cond.code ({ cls := "java/lang/StringUTF16", name := "putChar", desc := "([BII)V" } : Jvm.MethodName) jdk_52_method_4_code (3 : Nat) (Option.none : Option Jvm.ClassFile.FieldType)).before args0 about1 = true := code_word (m := ⟨10, 3⟩) (meth := k10m3) (c := k10c3) (by decide +kernel) rfl rfl rfl (by decide +kernel)
set_option maxRecDepth 65536 in
theorem w_c51 : (Jvm.Cond.code ({ cls := "java/lang/StringUTF16", name := "getChar", desc := "([BI)C" } : Jvm.MethodName) jdk_52_method_5_code (2 : Nat) (Option.some Jvm.ClassFile.FieldType.char)).before args0 about1 = true := code_word (m := ⟨10, 4⟩) (meth := k10m4) (c := k10c4) (by decide +kernel) rfl rfl rfl (by decide +kernel)
set_option maxRecDepth 65536 in
theorem w_c52 : (Jvm.Cond.code ({ cls := "java/lang/AbstractStringBuilder", name := "inflate", desc := "()V" } : Jvm.MethodName) jdk_68_method_11_code (2 : Nat) (Option.none : Option Jvm.ClassFile.FieldType)).before args0 about1 = true := code_word (m := ⟨17, 5⟩) (meth := k17m5) (c := k17c5) (by decide +kernel) rfl rfl rfl (by decide +kernel)
set_option maxRecDepth 65536 in
theorem w_c53 : (Jvm.Cond.code ({ cls := "java/lang/StringLatin1", name := "inflate", desc := "([BI[BII)V" } : Jvm.MethodName) jdk_43_method_50_code (5 : Nat) (Option.none : Option Jvm.ClassFile.FieldType)).before args0 about1 = true := code_word (m := ⟨8, 3⟩) (meth := k8m3) (c := k8c3) (by decide +kernel) rfl rfl rfl (by decide +kernel)
set_option maxRecDepth 65536 in
theorem w_c54 : (Jvm.Cond.code ({ cls := "java/lang/StringUTF16", name := "inflate", desc := "([BI[BII)V" } : Jvm.MethodName) jdk_52_method_86_code (6 : Nat) (Option.none : Option Jvm.ClassFile.FieldType)).before args0 about1 = true := code_word (m := ⟨10, 10⟩) (meth := k10m10) (c := k10c10) (by decide +kernel) rfl rfl rfl (by decide +kernel)
set_option maxRecDepth 65536 in
theorem w_c55 : (Jvm.Cond.code ({ cls := "java/lang/StringUTF16", name := "checkBoundsOffCount", desc := "(II[B)V" } : Jvm.MethodName) jdk_52_method_94_code (3 : Nat) (Option.none : Option Jvm.ClassFile.FieldType)).before args0 about1 = true := code_word (m := ⟨10, 11⟩) (meth := k10m11) (c := k10c11) (by decide +kernel) rfl rfl rfl (by decide +kernel)
set_option maxRecDepth 65536 in
theorem w_c56 : (Jvm.Cond.code ({ cls := "java/lang/StringUTF16", name := "length", desc := "([B)I" } : Jvm.MethodName) jdk_52_method_6_code (1 : Nat) (Option.some Jvm.ClassFile.FieldType.int)).before args0 about1 = true := code_word (m := ⟨10, 5⟩) (meth := k10m5) (c := k10c5) (by decide +kernel) rfl rfl rfl (by decide +kernel)
set_option maxRecDepth 65536 in
theorem w_c57 : (Jvm.Cond.code ({ cls := "java/lang/String", name := "checkBoundsOffCount", desc := "(III)I" } : Jvm.MethodName) jdk_42_method_157_code (3 : Nat) (Option.some Jvm.ClassFile.FieldType.int)).before args0 about1 = true := code_word (m := ⟨7, 12⟩) (meth := k7m12) (c := k7c12) (by decide +kernel) rfl rfl rfl (by decide +kernel)
set_option maxRecDepth 65536 in
theorem w_c58 : (Jvm.Cond.code ({ cls := "jdk/internal/util/Preconditions", name := "checkFromIndexSize", desc := "(IIILjava/util/function/BiFunction;)I" } : Jvm.MethodName) jdk_41_method_13_code (4 : Nat) (Option.some Jvm.ClassFile.FieldType.int)).before args0 about1 = true := code_word (m := ⟨9, 2⟩) (meth := k9m2) (c := k9c2) (by decide +kernel) rfl rfl rfl (by decide +kernel)
def codes1 : List Jvm.Cond := [Jvm.Cond.code x code maxLocals ret, Jvm.Cond.code ({ cls := "java/lang/String", name := "<init>", desc := "([C)V" } : Jvm.MethodName) jdk_42_method_3_code (2 : Nat) (Option.none : Option Jvm.ClassFile.FieldType), Jvm.Cond.code ({ cls := "java/lang/String", name := "<init>", desc := "([CIILjava/lang/Void;)V" } : Jvm.MethodName) jdk_42_method_149_code (6 : Nat) (Option.none : Option Jvm.ClassFile.FieldType), Jvm.Cond.code ({ cls := "java/lang/Object", name := "<init>", desc := "()V" } : Jvm.MethodName) object_method_1_code (1 : Nat) (Option.none : Option Jvm.ClassFile.FieldType), Jvm.Cond.code ({ cls := "java/lang/String", name := "charAt", desc := "(I)C" } : Jvm.MethodName) jdk_42_method_56_code (2 : Nat) (Option.some Jvm.ClassFile.FieldType.char), Jvm.Cond.code ({ cls := "java/lang/String", name := "isLatin1", desc := "()Z" } : Jvm.MethodName) jdk_42_method_154_code (1 : Nat) (Option.some Jvm.ClassFile.FieldType.boolean), Jvm.Cond.code ({ cls := "java/lang/StringLatin1", name := "charAt", desc := "([BI)C" } : Jvm.MethodName) jdk_43_method_2_code (2 : Nat) (Option.some Jvm.ClassFile.FieldType.char), Jvm.Cond.code ({ cls := "java/lang/String", name := "checkIndex", desc := "(II)V" } : Jvm.MethodName) jdk_42_method_155_code (2 : Nat) (Option.none : Option Jvm.ClassFile.FieldType), Jvm.Cond.code ({ cls := "jdk/internal/util/Preconditions", name := "checkIndex", desc := "(IILjava/util/function/BiFunction;)I" } : Jvm.MethodName) jdk_41_method_11_code (3 : Nat) (Option.some Jvm.ClassFile.FieldType.int), Jvm.Cond.code ({ cls := "java/lang/StringUTF16", name := "compress", desc := "([CII)[B" } : Jvm.MethodName) jdk_52_method_16_code (6 : Nat) (Option.some (Jvm.ClassFile.FieldType.array Jvm.ClassFile.FieldType.byte)), Jvm.Cond.code ({ cls := "java/lang/StringUTF16", name := "compress", desc := "([CI[BII)I" } : Jvm.MethodName) jdk_52_method_21_code (7 : Nat) (Option.some Jvm.ClassFile.FieldType.int), Jvm.Cond.code ({ cls := "java/lang/StringUTF16", name := "coderFromArrayLen", desc := "([BI)B" } : Jvm.MethodName) jdk_52_method_15_code (2 : Nat) (Option.some Jvm.ClassFile.FieldType.byte), Jvm.Cond.code ({ cls := "com/example/ceresio/ceresio/StateFormat", name := "malformed", desc := "(Ljava/lang/String;)Ljava/lang/IllegalArgumentException;" } : Jvm.MethodName) prog_11_method_3_code (1 : Nat) (Option.some (Jvm.ClassFile.FieldType.object "java/lang/IllegalArgumentException")), Jvm.Cond.code ({ cls := "java/lang/StringBuilder", name := "<init>", desc := "()V" } : Jvm.MethodName) jdk_67_method_1_code (1 : Nat) (Option.none : Option Jvm.ClassFile.FieldType), Jvm.Cond.code ({ cls := "java/lang/AbstractStringBuilder", name := "<init>", desc := "(I)V" } : Jvm.MethodName) jdk_68_method_2_code (2 : Nat) (Option.none : Option Jvm.ClassFile.FieldType), Jvm.Cond.code ({ cls := "java/lang/StringBuilder", name := "append", desc := "(Ljava/lang/String;)Ljava/lang/StringBuilder;" } : Jvm.MethodName) jdk_67_method_7_code (2 : Nat) (Option.some (Jvm.ClassFile.FieldType.object "java/lang/StringBuilder")), Jvm.Cond.code ({ cls := "java/lang/AbstractStringBuilder", name := "append", desc := "(Ljava/lang/String;)Ljava/lang/AbstractStringBuilder;" } : Jvm.MethodName) jdk_68_method_22_code (3 : Nat) (Option.some (Jvm.ClassFile.FieldType.object "java/lang/AbstractStringBuilder")), Jvm.Cond.code ({ cls := "java/lang/String", name := "length", desc := "()I" } : Jvm.MethodName) jdk_42_method_54_code (1 : Nat) (Option.some Jvm.ClassFile.FieldType.int), Jvm.Cond.code ({ cls := "java/lang/String", name := "coder", desc := "()B" } : Jvm.MethodName) jdk_42_method_152_code (1 : Nat) (Option.some Jvm.ClassFile.FieldType.byte), Jvm.Cond.code ({ cls := "java/lang/AbstractStringBuilder", name := "ensureCapacityInternal", desc := "(I)V" } : Jvm.MethodName) jdk_68_method_9_code (3 : Nat) (Option.none : Option Jvm.ClassFile.FieldType), Jvm.Cond.code ({ cls := "java/lang/AbstractStringBuilder", name := "newCapacity", desc := "(I)I" } : Jvm.MethodName) jdk_68_method_10_code (6 : Nat) (Option.some Jvm.ClassFile.FieldType.int), Jvm.Cond.code ({ cls := "jdk/internal/util/ArraysSupport", name := "newLength", desc := "(III)I" } : Jvm.MethodName) jdk_48_method_27_code (4 : Nat) (Option.some Jvm.ClassFile.FieldType.int), Jvm.Cond.code ({ cls := "java/lang/Math", name := "max", desc := "(II)I" } : Jvm.MethodName) jdk_29_method_65_code (2 : Nat) (Option.some Jvm.ClassFile.FieldType.int), Jvm.Cond.code ({ cls := "java/util/Arrays", name := "copyOf", desc := "([BI)[B" } : Jvm.MethodName) jdk_65_method_121_code (3 : Nat) (Option.some (Jvm.ClassFile.FieldType.array Jvm.ClassFile.FieldType.byte)), Jvm.Cond.code ({ cls := "java/lang/Math", name := "min", desc := "(II)I" } : Jvm.MethodName) jdk_29_method_69_code (2 : Nat) (Option.some Jvm.ClassFile.FieldType.int), Jvm.Cond.code ({ cls := "java/lang/AbstractStringBuilder", name := "putStringAt", desc := "(ILjava/lang/String;)V" } : Jvm.MethodName) jdk_68_method_73_code (3 : Nat) (Option.none : Option Jvm.ClassFile.FieldType), Jvm.Cond.code ({ cls := "java/lang/AbstractStringBuilder", name := "inflateIfNeededFor", desc := "(Ljava/lang/String;)V" } : Jvm.MethodName) jdk_68_method_71_code (2 : Nat) (Option.none : Option Jvm.ClassFile.FieldType), Jvm.Cond.code ({ cls := "java/lang/String", name := "getBytes", desc := "([BIB)V" } : Jvm.MethodName) jdk_42_method_147_code (4 : Nat) (Option.none : Option Jvm.ClassFile.FieldType), Jvm.Cond.code ({ cls := "java/lang/StringBuilder", name := "toString", desc := "()Ljava/lang/String;" } : Jvm.MethodName) jdk_67_method_42_code (1 : Nat) (Option.some (Jvm.ClassFile.FieldType.object "java/lang/String")), Jvm.Cond.code ({ cls := "java/lang/String", name := "<init>", desc := "(Ljava/lang/StringBuilder;)V" } : Jvm.MethodName) jdk_42_method_53_code (2 : Nat) (Option.none : Option Jvm.ClassFile.FieldType), Jvm.Cond.code ({ cls := "java/lang/String", name := "<init>", desc := "(Ljava/lang/AbstractStringBuilder;Ljava/lang/Void;)V" } : Jvm.MethodName) jdk_42_method_150_code (5 : Nat) (Option.none : Option Jvm.ClassFile.FieldType), Jvm.Cond.code ({ cls := "java/lang/AbstractStringBuilder", name := "getValue", desc := "()[B" } : Jvm.MethodName) jdk_68_method_64_code (1 : Nat) (Option.some (Jvm.ClassFile.FieldType.array Jvm.ClassFile.FieldType.byte)), Jvm.Cond.code ({ cls := "java/lang/StringBuilder", name := "length", desc := "()I" } : Jvm.MethodName) jdk_67_method_93_code (1 : Nat) (Option.some Jvm.ClassFile.FieldType.int), Jvm.Cond.code ({ cls := "java/lang/AbstractStringBuilder", name := "length", desc := "()I" } : Jvm.MethodName) jdk_68_method_6_code (1 : Nat) (Option.some Jvm.ClassFile.FieldType.int), Jvm.Cond.code ({ cls := "java/lang/AbstractStringBuilder", name := "isLatin1", desc := "()Z" } : Jvm.MethodName) jdk_68_method_68_code (1 : Nat) (Option.some Jvm.ClassFile.FieldType.boolean), Jvm.Cond.code ({ cls := "java/util/Arrays", name := "copyOfRange", desc := "([BII)[B" } : Jvm.MethodName) jdk_65_method_132_code (3 : Nat) (Option.some (Jvm.ClassFile.FieldType.array Jvm.ClassFile.FieldType.byte)), Jvm.Cond.code ({ cls := "java/util/Arrays", name := "copyOfRangeByte", desc := "([BII)[B" } : Jvm.MethodName) jdk_65_method_133_code (5 : Nat) (Option.some (Jvm.ClassFile.FieldType.array Jvm.ClassFile.FieldType.byte)), Jvm.Cond.code ({ cls := "java/util/Arrays", name := "checkLength", desc := "(II)V" } : Jvm.MethodName) jdk_65_method_131_code (2 : Nat) (Option.none : Option Jvm.ClassFile.FieldType), Jvm.Cond.code ({ cls := "java/lang/IllegalArgumentException", name := "<init>", desc := "(Ljava/lang/String;)V" } : Jvm.MethodName) jdk_57_method_2_code (2 : Nat) (Option.none : Option Jvm.ClassFile.FieldType), Jvm.Cond.code ({ cls := "java/lang/RuntimeException", name := "<init>", desc := "(Ljava/lang/String;)V" } : Jvm.MethodName) jdk_58_method_2_code (2 : Nat) (Option.none : Option Jvm.ClassFile.FieldType), Jvm.Cond.code ({ cls := "java/lang/Exception", name := "<init>", desc := "(Ljava/lang/String;)V" } : Jvm.MethodName) jdk_59_method_2_code (2 : Nat) (Option.none : Option Jvm.ClassFile.FieldType), Jvm.Cond.code ({ cls := "java/lang/Throwable", name := "<init>", desc := "(Ljava/lang/String;)V" } : Jvm.MethodName) jdk_78_method_2_code (2 : Nat) (Option.none : Option Jvm.ClassFile.FieldType), Jvm.Cond.code ({ cls := "java/lang/Throwable", name := "<init>", desc := "()V" } : Jvm.MethodName) jdk_78_method_1_code (1 : Nat) (Option.none : Option Jvm.ClassFile.FieldType), Jvm.Cond.code ({ cls := "java/lang/Throwable", name := "getMessage", desc := "()Ljava/lang/String;" } : Jvm.MethodName) jdk_78_method_6_code (1 : Nat) (Option.some (Jvm.ClassFile.FieldType.object "java/lang/String")), Jvm.Cond.code ({ cls := "java/lang/String", name := "equals", desc := "(Ljava/lang/Object;)Z" } : Jvm.MethodName) jdk_42_method_66_code (3 : Nat) (Option.some Jvm.ClassFile.FieldType.boolean), Jvm.Cond.code ({ cls := "java/lang/StringLatin1", name := "equals", desc := "([B[B)Z" } : Jvm.MethodName) jdk_43_method_13_code (3 : Nat) (Option.some Jvm.ClassFile.FieldType.boolean), Jvm.Cond.code ({ cls := "java/lang/AbstractStringBuilder", name := "appendNull", desc := "()Ljava/lang/AbstractStringBuilder;" } : Jvm.MethodName) jdk_68_method_26_code (3 : Nat) (Option.some (Jvm.ClassFile.FieldType.object "java/lang/AbstractStringBuilder")), Jvm.Cond.code ({ cls := "java/lang/StringUTF16", name := "toBytes", desc := "([CII)[B" } : Jvm.MethodName) jdk_52_method_14_code (5 : Nat) (Option.some (Jvm.ClassFile.FieldType.array Jvm.ClassFile.FieldType.byte)), Jvm.Cond.code ({ cls := "java/lang/StringUTF16", name := "newBytesFor", desc := "(I)[B" } : Jvm.MethodName) jdk_52_method_2_code (1 : Nat) (Option.some (Jvm.ClassFile.FieldType.array Jvm.ClassFile.FieldType.byte)), Jvm.Cond.code ({ cls := "java/lang/StringUTF16", name := "newBytesLength", desc := "(I)I" } : Jvm.MethodName) jdk_52_method_3_code (1 : Nat) (Option.some Jvm.ClassFile.FieldType.int), Jvm.Cond.code ({ cls := "java/lang/StringUTF16", name := "putChar", desc := "([BII)V" } : Jvm.MethodName) jdk_52_method_4_code (3 : Nat) (Option.none : Option Jvm.ClassFile.FieldType), Jvm.Cond.code ({ cls := "java/lang/StringUTF16", name := "getChar", desc := "([BI)C" } : Jvm.MethodName) jdk_52_method_5_code (2 : Nat) (Option.some Jvm.ClassFile.FieldType.char), Jvm.Cond.code ({ cls := "java/lang/AbstractStringBuilder", name := "inflate", desc := "()V" } : Jvm.MethodName) jdk_68_method_11_code (2 : Nat) (Option.none : Option Jvm.ClassFile.FieldType), Jvm.Cond.code ({ cls := "java/lang/StringLatin1", name := "inflate", desc := "([BI[BII)V" } : Jvm.MethodName) jdk_43_method_50_code (5 : Nat) (Option.none : Option Jvm.ClassFile.FieldType), Jvm.Cond.code ({ cls := "java/lang/StringUTF16", name := "inflate", desc := "([BI[BII)V" } : Jvm.MethodName) jdk_52_method_86_code (6 : Nat) (Option.none : Option Jvm.ClassFile.FieldType), Jvm.Cond.code ({ cls := "java/lang/StringUTF16", name := "checkBoundsOffCount", desc := "(II[B)V" } : Jvm.MethodName) jdk_52_method_94_code (3 : Nat) (Option.none : Option Jvm.ClassFile.FieldType), Jvm.Cond.code ({ cls := "java/lang/StringUTF16", name := "length", desc := "([B)I" } : Jvm.MethodName) jdk_52_method_6_code (1 : Nat) (Option.some Jvm.ClassFile.FieldType.int), Jvm.Cond.code ({ cls := "java/lang/String", name := "checkBoundsOffCount", desc := "(III)I" } : Jvm.MethodName) jdk_42_method_157_code (3 : Nat) (Option.some Jvm.ClassFile.FieldType.int), Jvm.Cond.code ({ cls := "jdk/internal/util/Preconditions", name := "checkFromIndexSize", desc := "(IIILjava/util/function/BiFunction;)I" } : Jvm.MethodName) jdk_41_method_13_code (4 : Nat) (Option.some Jvm.ClassFile.FieldType.int)]
set_option maxRecDepth 65536 in
theorem codes_eq : words1.filter isCode = codes1 := rfl
theorem w_codes : ∀ c ∈ words1.filter isCode, c.before args0 about1 = true := by
  rw [codes_eq]
  intro c hc
  simp only [codes1, List.mem_cons, List.not_mem_nil, or_false] at hc
  rcases hc with rfl | rfl | rfl | rfl | rfl | rfl | rfl | rfl | rfl | rfl | rfl | rfl | rfl | rfl | rfl | rfl | rfl | rfl | rfl | rfl | rfl | rfl | rfl | rfl | rfl | rfl | rfl | rfl | rfl | rfl | rfl | rfl | rfl | rfl | rfl | rfl | rfl | rfl | rfl | rfl | rfl | rfl | rfl | rfl | rfl | rfl | rfl | rfl | rfl | rfl | rfl | rfl | rfl | rfl | rfl | rfl | rfl | rfl | rfl
  · exact w_c0
  · exact w_c1
  · exact w_c2
  · exact w_c3
  · exact w_c4
  · exact w_c5
  · exact w_c6
  · exact w_c7
  · exact w_c8
  · exact w_c9
  · exact w_c10
  · exact w_c11
  · exact w_c12
  · exact w_c13
  · exact w_c14
  · exact w_c15
  · exact w_c16
  · exact w_c17
  · exact w_c18
  · exact w_c19
  · exact w_c20
  · exact w_c21
  · exact w_c22
  · exact w_c23
  · exact w_c24
  · exact w_c25
  · exact w_c26
  · exact w_c27
  · exact w_c28
  · exact w_c29
  · exact w_c30
  · exact w_c31
  · exact w_c32
  · exact w_c33
  · exact w_c34
  · exact w_c35
  · exact w_c36
  · exact w_c37
  · exact w_c38
  · exact w_c39
  · exact w_c40
  · exact w_c41
  · exact w_c42
  · exact w_c43
  · exact w_c44
  · exact w_c45
  · exact w_c46
  · exact w_c47
  · exact w_c48
  · exact w_c49
  · exact w_c50
  · exact w_c51
  · exact w_c52
  · exact w_c53
  · exact w_c54
  · exact w_c55
  · exact w_c56
  · exact w_c57
  · exact w_c58
set_option maxRecDepth 65536 in
theorem w_t1 : (words1.take 24).all (fun c => isCode c || c.before args0 about1) = true := by decide +kernel
set_option maxRecDepth 65536 in
theorem w_t2 : ((words1.drop 24).take 24).all (fun c => isCode c || c.before args0 about1) = true := by decide +kernel
set_option maxRecDepth 65536 in
theorem w_t3 : (((words1.drop 24).drop 24).take 24).all (fun c => isCode c || c.before args0 about1) = true := by decide +kernel
set_option maxRecDepth 65536 in
theorem w_t4 : ((((words1.drop 24).drop 24).drop 24).take 24).all (fun c => isCode c || c.before args0 about1) = true := by decide +kernel
set_option maxRecDepth 65536 in
theorem w_t5 : (((((words1.drop 24).drop 24).drop 24).drop 24).take 24).all (fun c => isCode c || c.before args0 about1) = true := by decide +kernel
set_option maxRecDepth 65536 in
theorem w_t6 : ((((((words1.drop 24).drop 24).drop 24).drop 24).drop 24).take 24).all (fun c => isCode c || c.before args0 about1) = true := by decide +kernel
set_option maxRecDepth 65536 in
theorem w_t7 : (((((((words1.drop 24).drop 24).drop 24).drop 24).drop 24).drop 24).take 24).all (fun c => isCode c || c.before args0 about1) = true := by decide +kernel
set_option maxRecDepth 65536 in
theorem w_t8 : ((((((((words1.drop 24).drop 24).drop 24).drop 24).drop 24).drop 24).drop 24).take 24).all (fun c => isCode c || c.before args0 about1) = true := by decide +kernel
set_option maxRecDepth 65536 in
theorem w_t9 : (((((((((words1.drop 24).drop 24).drop 24).drop 24).drop 24).drop 24).drop 24).drop 24).take 24).all (fun c => isCode c || c.before args0 about1) = true := by decide +kernel
set_option maxRecDepth 65536 in
theorem w_t10 : ((((((((((words1.drop 24).drop 24).drop 24).drop 24).drop 24).drop 24).drop 24).drop 24).drop 24).take 24).all (fun c => isCode c || c.before args0 about1) = true := by decide +kernel
set_option maxRecDepth 65536 in
theorem w_t11 : (((((((((((words1.drop 24).drop 24).drop 24).drop 24).drop 24).drop 24).drop 24).drop 24).drop 24).drop 24).take 24).all (fun c => isCode c || c.before args0 about1) = true := by decide +kernel
set_option maxRecDepth 65536 in
theorem w_t12 : ((((((((((((words1.drop 24).drop 24).drop 24).drop 24).drop 24).drop 24).drop 24).drop 24).drop 24).drop 24).drop 24).take 24).all (fun c => isCode c || c.before args0 about1) = true := by decide +kernel
set_option maxRecDepth 65536 in
theorem w_t13 : (((((((((((((words1.drop 24).drop 24).drop 24).drop 24).drop 24).drop 24).drop 24).drop 24).drop 24).drop 24).drop 24).drop 24).take 24).all (fun c => isCode c || c.before args0 about1) = true := by decide +kernel
set_option maxRecDepth 65536 in
theorem w_t14 : (((((((((((((words1.drop 24).drop 24).drop 24).drop 24).drop 24).drop 24).drop 24).drop 24).drop 24).drop 24).drop 24).drop 24).drop 24).all (fun c => isCode c || c.before args0 about1) = true := by decide +kernel
theorem w_tables : (allAtoms (Jvm.Cond.code x code maxLocals ret :: tables_1)).before args0 about1 = true := by
  rw [allAtoms_all]
  show words1.all (fun c => c.before args0 about1) = true
  refine all_split ?_ w_codes
  rw [← List.take_append_drop 24 words1, List.all_append, w_t1, ← List.take_append_drop 24 (words1.drop 24), List.all_append, w_t2, ← List.take_append_drop 24 ((words1.drop 24).drop 24), List.all_append, w_t3, ← List.take_append_drop 24 (((words1.drop 24).drop 24).drop 24), List.all_append, w_t4, ← List.take_append_drop 24 ((((words1.drop 24).drop 24).drop 24).drop 24), List.all_append, w_t5, ← List.take_append_drop 24 (((((words1.drop 24).drop 24).drop 24).drop 24).drop 24), List.all_append, w_t6, ← List.take_append_drop 24 ((((((words1.drop 24).drop 24).drop 24).drop 24).drop 24).drop 24), List.all_append, w_t7, ← List.take_append_drop 24 (((((((words1.drop 24).drop 24).drop 24).drop 24).drop 24).drop 24).drop 24), List.all_append, w_t8, ← List.take_append_drop 24 ((((((((words1.drop 24).drop 24).drop 24).drop 24).drop 24).drop 24).drop 24).drop 24), List.all_append, w_t9, ← List.take_append_drop 24 (((((((((words1.drop 24).drop 24).drop 24).drop 24).drop 24).drop 24).drop 24).drop 24).drop 24), List.all_append, w_t10, ← List.take_append_drop 24 ((((((((((words1.drop 24).drop 24).drop 24).drop 24).drop 24).drop 24).drop 24).drop 24).drop 24).drop 24), List.all_append, w_t11, ← List.take_append_drop 24 (((((((((((words1.drop 24).drop 24).drop 24).drop 24).drop 24).drop 24).drop 24).drop 24).drop 24).drop 24).drop 24), List.all_append, w_t12, ← List.take_append_drop 24 ((((((((((((words1.drop 24).drop 24).drop 24).drop 24).drop 24).drop 24).drop 24).drop 24).drop 24).drop 24).drop 24).drop 24), List.all_append, w_t13, w_t14]
  rfl
set_option maxRecDepth 65536 in
theorem w_rest : rest_1_c.before args0 about1 = true := by decide +kernel
set_option maxRecDepth 65536 in
theorem w_case : (Jvm.Cond.and given_1 narrow_1).before args0 about1 = true := by decide +kernel
set_option maxRecDepth 65536 in
theorem w_consts : constsHeld consts_1 about1 := Jvm.Lit.constsHeldB_iff.mp (by decide +kernel)
theorem w_applies : (headSpec (Jvm.Cond.code x code maxLocals ret :: tables_1) room_1).applies x e0.platform about1 = true :=
  (Spec.applies_iff w_frames).mpr ⟨w_running, w_runnable, w_alone, w_named, w_hears, w_ripe, w_room, w_tables⟩
theorem atStart : AtStart classFile x code maxLocals ret World_1 tables_1 room_1 Calls_1 rest_1 Pre_1 launch0 p0 e0 about1 theMethod args0 below0 :=
  ⟨lists_1, trivial, launch0.admits_env _ _ _, launch0.least_env, fairChoices_fair.cas, fairChoices_fair.clock, w_frames, w_args, w_heap, w_applies, ⟨(by decide +kernel : framesKnown about1 = true), ⟨(by decide +kernel : tablesKnown about1 = true), ⟨w_consts, trivial⟩⟩⟩, w_rest, w_case⟩
end start1
theorem witness_1 : WitnessClaimed_1 := ⟨start1.p0, start1.e0, start1.about1, start1.theMethod, start1.args0, start1.below0, start1.atStart⟩
end Jvm.Pilot.@@N@@
