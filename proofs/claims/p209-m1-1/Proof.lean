import JvmDerived
import JvmDerived.Pilot.@@N@@Statement
import JvmDerived.Pilot.@@N@@Code
set_option linter.unusedVariables false
set_option linter.unusedSimpArgs false
@@BLOCK:NumsL.lean.txt@@
namespace Jvm.RoadKit
open Sem ClassFile Op Lib Jvm.Stand Jvm.Free Jvm.LawKit
section New
variable {p : Program} {l : Launch} {e : Env} {R : Room} {s : State} {m : MethodId} {args : Array Value} {below : List Frame} {meth : Method} {c : Code} {T : State} {locs : List Loc} {cells slots : Nat}
theorem retI (X : Stand p l e R s m args below meth c T locs cells slots) (hx : p.tables.exec = Jvm.exec) {pc : Nat} {Ls : Array Slot} {z : Int32} {rest : List Value} (hret : meth.sig.returnType = some .int) (hd : decode c.code pc = .ok (.ireturn, 1)) {fs : List Frame}
    (hl : ∀ (f : JFrame) (acts : List Action), f.method = m → f.locked = none → f.entered = [] → (doReturn e (T.setTop f) acts (some (.int z))).1 = T.setFrames fs) : Steps p.tables e below (T.setTop (mkF m pc Ls (.int z :: rest))) (T.setFrames fs) := by
  have hm' : T.vm.method? m = some meth := X.method'
  have hn : narrow .int (.int z) = .int z := rfl
  show Steps p.tables e below (T.setTop { method := m, pc := pc, locals := Ls, stack := _ :: rest, locked := none }) _
  jvm_step X.here [X.here.top, hx, hd, hm', hret, hn]
  first | (intro acts; rw [hl _ acts rfl rfl rfl]) | rw [hl _ _ rfl rfl rfl]
  exact Steps.refl _
end New
end Jvm.RoadKit
namespace Jvm.Pilot.@@N@@
open Jvm Jvm.ClassFile Sem Op Lib Jvm.Free Jvm.Stand Jvm.LawKit Jvm.RoadKit Bundle Jvm.Pilot.@@N@@.Jvm.D
def Qv (r : Value) (h0 : Heap) (n0 : Nat) (v : Option Value) (h : Heap) (L : List Loc) : Prop := v = some r ∧ Fr n0 L ∧ h = h0
theorem d1_0 : decode method_3_code 0 = .ok (.iload_n 0, 1) := by decide +kernel
theorem d1_1 : decode method_3_code 1 = .ok (.iload_n 1, 1) := by decide +kernel
theorem d1_2 : decode method_3_code 2 = .ok (.ishr, 1) := by decide +kernel
theorem d1_3 : decode method_3_code 3 = .ok (.iconst 1, 1) := by decide +kernel
theorem d1_4 : decode method_3_code 4 = .ok (.iand, 1) := by decide +kernel
theorem d1_5 : decode method_3_code 5 = .ok (.ifCond .eq 8, 3) := by decide +kernel
theorem d1_13 : decode method_3_code 13 = .ok (.iload_n 2, 1) := by decide +kernel
theorem d1_14 : decode method_3_code 14 = .ok (.i2b, 1) := by decide +kernel
theorem d1_15 : decode method_3_code 15 = .ok (.ireturn, 1) := by decide +kernel
theorem pn_1 : plainName "com/example/countersign/countersign/core/LinesLineEndPinLaw" = true := by first | (simp [plainName, overriddenIn]; done) | decide +kernel
theorem ef_1 (m : MethodId) (x0 : Int32) (x1 : Int32) (x2 : Int32) : entryFrame m #[(.int x0), (.int x1), (.int x2)] 3 = mkF m 0 #[.val (.int x0), .val (.int x1), .val (.int x2)] [] := by first | (simp [entryFrame, mkF, argsToLocals, Value.category]; done) | rfl
set_option maxRecDepth 65536 in
set_option maxHeartbeats 40000000 in
theorem rm1_t (l : Launch) (Z : State) (a0 : Array Value) (hw : ∀ d ∈ tables_1, d.before a0 Z = true) (ws : List Jvm.Cond) (p1 : Int32) (p2 : Int32) (p3 : Int32) (h0 : Heap) (n0 : Nat) (Z0 : n0 ≤ h0.size) (hc5 : ((p1 >>> (p2 &&& 31)) &&& (1 : Int32)) = (0 : Int32)) :
    MetFree l (⟨"com/example/countersign/countersign/core/LinesLineEndPinLaw", "draw", "(III)B"⟩ : MethodName) (head1 (Jvm.Cond.code (⟨"com/example/countersign/countersign/core/LinesLineEndPinLaw", "draw", "(III)B"⟩ : MethodName) method_3_code 3 (some .byte) :: ws) ({ frames := 0, cells := 0, slots := 0, locals := 0 } : Room)) (fun a U => a = #[(.int p1), (.int p2), (.int p3)] ∧ Z.Warmed39 U.vm ∧ U.heap = h0) (fun _ _ _ _ _ => True) (fun _ U o U' => ∃ v L, o = .returned v ∧ Qv (.int (nar .byte (p3.toInt8.toInt32))) h0 n0 v U'.heap L ∧ FrameEnd U o U' L ({ frames := 0, cells := 0, slots := 0, locals := 0 } : Room).cells ({ frames := 0, cells := 0, slots := 0, locals := 0 } : Room).slots) := by
  refine MetFree.of_bodySF (plainFor_of_name pn_1) hisR ?_
  intro p e s m args below meth c s₁ Bd hml0 hP hK
  obtain ⟨rfl, hZ, hh⟩ := hP
  have hx := Bd.exec
  have hby := Bd.bytes
  have hml : c.maxLocals = 3 := hml0
  have hown : s.vm.findClass "com/example/countersign/countersign/core/LinesLineEndPinLaw" = some m.cls := findClass_of_methodNamed Bd.named
  have hnm := (name_of_methodNamed Bd.named Bd.method).1
  have X0 : Stand p l e ({ frames := 0, cells := 0, slots := 0, locals := 0 } : Room) s m #[(.int p1), (.int p2), (.int p3)] below meth c s₁ [] 0 0 := Stand.of_body Bd
  have e0 : s₁.heap = h0 := by rw [← hh, Bd.state]; rfl
  have N0 := Fr.nil n0
  have pre0 : ∀ t, Steps p.tables e below (s₁.setTop (mkF m 0 #[.val (.int p1), .val (.int p2), .val (.int p3)] [])) t → Steps p.tables e below (s₁.setTop (entryFrame m #[(.int p1), (.int p2), (.int p3)] 3)) t := fun t k => castTop (ef_1 m p1 p2 p3) k
  obtain ⟨fs, hr, hrun, hended, hW, hsame⟩ := X0.leave (v := some (.int (nar .byte (p3.toInt8.toInt32)))) (fun h => by rw [Bd.returns] at h; cases h)
  refine ⟨_, _, pre0 _ ?_, hrun, hended, _, _, rfl, ?_, ⟨_, rfl⟩, hW, hsame.mono (by decide) (by decide)⟩
  · show Steps p.tables e below (s₁.setTop (mkF m 0 #[.val (.int p1), .val (.int p2), .val (.int p3)] [])) _
    refine XS.iloadN X0.here hx rfl (hb hby d1_0) rfl ?_
    show Steps p.tables e below (s₁.setTop (mkF m 1 #[.val (.int p1), .val (.int p2), .val (.int p3)] [(.int p1)])) _
    refine XS.iloadN X0.here hx rfl (hb hby d1_1) rfl ?_
    show Steps p.tables e below (s₁.setTop (mkF m 2 #[.val (.int p1), .val (.int p2), .val (.int p3)] [(.int p2), (.int p1)])) _
    refine XS.ishr X0.here hx rfl (hb hby d1_2) rfl ?_
    show Steps p.tables e below (s₁.setTop (mkF m 3 #[.val (.int p1), .val (.int p2), .val (.int p3)] [(.int (p1 >>> (p2 &&& 31)))])) _
    refine XS.iconst X0.here hx rfl (hb hby d1_3) ?_
    show Steps p.tables e below (s₁.setTop (mkF m 4 #[.val (.int p1), .val (.int p2), .val (.int p3)] [(.int (1 : Int32)), (.int (p1 >>> (p2 &&& 31)))])) _
    refine XS.iand X0.here hx rfl (hb hby d1_4) rfl ?_
    show Steps p.tables e below (s₁.setTop (mkF m 5 #[.val (.int p1), .val (.int p2), .val (.int p3)] [(.int ((p1 >>> (p2 &&& 31)) &&& (1 : Int32)))])) _
    refine XS.ifYes X0.here hx rfl (pc0 := 5) (pc' := 13) rfl (hb hby d1_5) rfl ((if0 _ _).trans (teq hc5).1) (by decide) (by decide) ?_
    show Steps p.tables e below (s₁.setTop (mkF m 13 #[.val (.int p1), .val (.int p2), .val (.int p3)] [])) _
    refine XS.iloadN X0.here hx rfl (hb hby d1_13) rfl ?_
    show Steps p.tables e below (s₁.setTop (mkF m 14 #[.val (.int p1), .val (.int p2), .val (.int p3)] [(.int p3)])) _
    refine XS.i2b X0.here hx rfl (hb hby d1_14) rfl ?_
    show Steps p.tables e below (s₁.setTop (mkF m 15 #[.val (.int p1), .val (.int p2), .val (.int p3)] [(.int (p3.toInt8.toInt32))])) _
    exact retN X0 hx (t := .byte) Bd.returns (by simp) (hb hby d1_15) hr
  · show Qv (.int (nar .byte (p3.toInt8.toInt32))) h0 n0 _ s₁.heap _
    rw [e0]
    exact ⟨rfl, N0, rfl⟩
theorem d1_8 : decode method_3_code 8 = .ok (.bipush 10, 2) := by decide +kernel
theorem d1_10 : decode method_3_code 10 = .ok (.goto 5, 3) := by decide +kernel
set_option maxRecDepth 65536 in
set_option maxHeartbeats 40000000 in
theorem rm1_f (l : Launch) (Z : State) (a0 : Array Value) (hw : ∀ d ∈ tables_1, d.before a0 Z = true) (ws : List Jvm.Cond) (p1 : Int32) (p2 : Int32) (p3 : Int32) (h0 : Heap) (n0 : Nat) (Z0 : n0 ≤ h0.size) (hc5 : ¬ (((p1 >>> (p2 &&& 31)) &&& (1 : Int32)) = (0 : Int32))) :
    MetFree l (⟨"com/example/countersign/countersign/core/LinesLineEndPinLaw", "draw", "(III)B"⟩ : MethodName) (head1 (Jvm.Cond.code (⟨"com/example/countersign/countersign/core/LinesLineEndPinLaw", "draw", "(III)B"⟩ : MethodName) method_3_code 3 (some .byte) :: ws) ({ frames := 0, cells := 0, slots := 0, locals := 0 } : Room)) (fun a U => a = #[(.int p1), (.int p2), (.int p3)] ∧ Z.Warmed39 U.vm ∧ U.heap = h0) (fun _ _ _ _ _ => True) (fun _ U o U' => ∃ v L, o = .returned v ∧ Qv (.int (10 : Int32)) h0 n0 v U'.heap L ∧ FrameEnd U o U' L ({ frames := 0, cells := 0, slots := 0, locals := 0 } : Room).cells ({ frames := 0, cells := 0, slots := 0, locals := 0 } : Room).slots) := by
  refine MetFree.of_bodySF (plainFor_of_name pn_1) hisR ?_
  intro p e s m args below meth c s₁ Bd hml0 hP hK
  obtain ⟨rfl, hZ, hh⟩ := hP
  have hx := Bd.exec
  have hby := Bd.bytes
  have hml : c.maxLocals = 3 := hml0
  have hown : s.vm.findClass "com/example/countersign/countersign/core/LinesLineEndPinLaw" = some m.cls := findClass_of_methodNamed Bd.named
  have hnm := (name_of_methodNamed Bd.named Bd.method).1
  have X0 : Stand p l e ({ frames := 0, cells := 0, slots := 0, locals := 0 } : Room) s m #[(.int p1), (.int p2), (.int p3)] below meth c s₁ [] 0 0 := Stand.of_body Bd
  have e0 : s₁.heap = h0 := by rw [← hh, Bd.state]; rfl
  have N0 := Fr.nil n0
  have pre0 : ∀ t, Steps p.tables e below (s₁.setTop (mkF m 0 #[.val (.int p1), .val (.int p2), .val (.int p3)] [])) t → Steps p.tables e below (s₁.setTop (entryFrame m #[(.int p1), (.int p2), (.int p3)] 3)) t := fun t k => castTop (ef_1 m p1 p2 p3) k
  obtain ⟨fs, hr, hrun, hended, hW, hsame⟩ := X0.leave (v := some (.int (10 : Int32))) (fun h => by rw [Bd.returns] at h; cases h)
  refine ⟨_, _, pre0 _ ?_, hrun, hended, _, _, rfl, ?_, ⟨_, rfl⟩, hW, hsame.mono (by decide) (by decide)⟩
  · show Steps p.tables e below (s₁.setTop (mkF m 0 #[.val (.int p1), .val (.int p2), .val (.int p3)] [])) _
    refine XS.iloadN X0.here hx rfl (hb hby d1_0) rfl ?_
    show Steps p.tables e below (s₁.setTop (mkF m 1 #[.val (.int p1), .val (.int p2), .val (.int p3)] [(.int p1)])) _
    refine XS.iloadN X0.here hx rfl (hb hby d1_1) rfl ?_
    show Steps p.tables e below (s₁.setTop (mkF m 2 #[.val (.int p1), .val (.int p2), .val (.int p3)] [(.int p2), (.int p1)])) _
    refine XS.ishr X0.here hx rfl (hb hby d1_2) rfl ?_
    show Steps p.tables e below (s₁.setTop (mkF m 3 #[.val (.int p1), .val (.int p2), .val (.int p3)] [(.int (p1 >>> (p2 &&& 31)))])) _
    refine XS.iconst X0.here hx rfl (hb hby d1_3) ?_
    show Steps p.tables e below (s₁.setTop (mkF m 4 #[.val (.int p1), .val (.int p2), .val (.int p3)] [(.int (1 : Int32)), (.int (p1 >>> (p2 &&& 31)))])) _
    refine XS.iand X0.here hx rfl (hb hby d1_4) rfl ?_
    show Steps p.tables e below (s₁.setTop (mkF m 5 #[.val (.int p1), .val (.int p2), .val (.int p3)] [(.int ((p1 >>> (p2 &&& 31)) &&& (1 : Int32)))])) _
    refine XS.ifNo X0.here hx rfl (hb hby d1_5) rfl ((if0 _ _).trans (feq hc5).1) ?_
    show Steps p.tables e below (s₁.setTop (mkF m 8 #[.val (.int p1), .val (.int p2), .val (.int p3)] [])) _
    refine XS.bipush X0.here hx rfl (hb hby d1_8) ?_
    show Steps p.tables e below (s₁.setTop (mkF m 10 #[.val (.int p1), .val (.int p2), .val (.int p3)] [(.int (10 : Int32))])) _
    refine XS.goto X0.here hx rfl (pc0 := 10) (pc' := 15) rfl (hb hby d1_10) (by decide) (by decide) ?_
    show Steps p.tables e below (s₁.setTop (mkF m 15 #[.val (.int p1), .val (.int p2), .val (.int p3)] [(.int (10 : Int32))])) _
    exact retN X0 hx (t := .byte) Bd.returns (by simp) (hb hby d1_15) hr
  · show Qv (.int (10 : Int32)) h0 n0 _ s₁.heap _
    rw [e0]
    exact ⟨rfl, N0, rfl⟩
def own_draw (p1 p2 p3 : Int32) : Int32 := if ((p1 >>> (p2 &&& 31)) &&& (1 : Int32)) = (0 : Int32) then nar .byte (p3.toInt8.toInt32) else (10 : Int32)
theorem rm1 (l : Launch) (Z : State) (a0 : Array Value) (hw : ∀ d ∈ tables_1, d.before a0 Z = true) (ws : List Jvm.Cond) (p1 p2 p3 : Int32) (h0 : Heap) (n0 : Nat) (Z0 : n0 ≤ h0.size) :
    MetFree l (⟨"com/example/countersign/countersign/core/LinesLineEndPinLaw", "draw", "(III)B"⟩ : MethodName) (head1 (Jvm.Cond.code (⟨"com/example/countersign/countersign/core/LinesLineEndPinLaw", "draw", "(III)B"⟩ : MethodName) method_3_code 3 (some .byte) :: ws) ({ frames := 0, cells := 0, slots := 0, locals := 0 } : Room)) (fun a U => a = #[(.int p1), (.int p2), (.int p3)] ∧ Z.Warmed39 U.vm ∧ U.heap = h0) (fun _ _ _ _ _ => True) (fun _ U o U' => ∃ v L, o = .returned v ∧ Qv (.int (own_draw p1 p2 p3)) h0 n0 v U'.heap L ∧ FrameEnd U o U' L ({ frames := 0, cells := 0, slots := 0, locals := 0 } : Room).cells ({ frames := 0, cells := 0, slots := 0, locals := 0 } : Room).slots) := by
  by_cases hc5 : ((p1 >>> (p2 &&& 31)) &&& (1 : Int32)) = (0 : Int32)
  · rw [own_draw, if_pos hc5]; exact rm1_t l Z a0 hw ws p1 p2 p3 h0 n0 Z0 hc5
  · rw [own_draw, if_neg hc5]; exact rm1_f l Z a0 hw ws p1 p2 p3 h0 n0 Z0 hc5
theorem d2_0 : decode jdk_29_method_69_code 0 = .ok (.iload_n 0, 1) := by decide +kernel
theorem d2_1 : decode jdk_29_method_69_code 1 = .ok (.iload_n 1, 1) := by decide +kernel
theorem d2_2 : decode jdk_29_method_69_code 2 = .ok (.if_icmp .gt 7, 3) := by decide +kernel
theorem d2_9 : decode jdk_29_method_69_code 9 = .ok (.iload_n 1, 1) := by decide +kernel
theorem d2_10 : decode jdk_29_method_69_code 10 = .ok (.ireturn, 1) := by decide +kernel
theorem ef_2 (m : MethodId) (x0 : Int32) (x1 : Int32) : entryFrame m #[(.int x0), (.int x1)] 2 = mkF m 0 #[.val (.int x0), .val (.int x1)] [] := by first | (simp [entryFrame, mkF, argsToLocals, Value.category]; done) | rfl
def Q2 (r : Int32) (Z : State) (p1 : Int32) (p2 : Int32) (h0 : Heap) (n0 : Nat) (v : Option Value) (h : Heap) (L : List Loc) : Prop := v = some (.int r) ∧ Fr n0 L ∧ h = h0
set_option maxRecDepth 65536 in
set_option maxHeartbeats 40000000 in
theorem rm2_t (l : Launch) (Z : State) (a0 : Array Value) (hw : ∀ d ∈ tables_1, d.before a0 Z = true) (ws : List Jvm.Cond) (p1 : Int32) (p2 : Int32) (h0 : Heap) (n0 : Nat) (Z0 : n0 ≤ h0.size) (hc2 : p2 < p1) :
    MetFree l (⟨"java/lang/Math", "min", "(II)I"⟩ : MethodName) (head1 (Jvm.Cond.code (⟨"java/lang/Math", "min", "(II)I"⟩ : MethodName) jdk_29_method_69_code 2 (some .int) :: ws) ({ frames := 0, cells := 0, slots := 0, locals := 0 } : Room)) (fun a U => a = #[(.int p1), (.int p2)] ∧ Z.Warmed39 U.vm ∧ U.heap = h0) (fun _ _ _ _ _ => True) (fun _ U o U' => ∃ v L, o = .returned v ∧ Q2 p2 Z p1 p2 h0 n0 v U'.heap L ∧ FrameEnd U o U' L ({ frames := 0, cells := 0, slots := 0, locals := 0 } : Room).cells ({ frames := 0, cells := 0, slots := 0, locals := 0 } : Room).slots) := by
  refine MetFree.of_bodySF (Jvm.Free.JP.mathPlain rfl (by decide +kernel)) hisR ?_
  intro p e s m args below meth c s₁ Bd hml0 hP hK
  obtain ⟨rfl, hZ, hh⟩ := hP
  have hx := Bd.exec
  have hby := Bd.bytes
  have hml : c.maxLocals = 2 := hml0
  have hown : s.vm.findClass "java/lang/Math" = some m.cls := findClass_of_methodNamed Bd.named
  have hnm := (name_of_methodNamed Bd.named Bd.method).1
  have X0 : Stand p l e ({ frames := 0, cells := 0, slots := 0, locals := 0 } : Room) s m #[(.int p1), (.int p2)] below meth c s₁ [] 0 0 := Stand.of_body Bd
  have e0 : s₁.heap = h0 := by rw [← hh, Bd.state]; rfl
  have N0 := Fr.nil n0
  have pre0 : ∀ t, Steps p.tables e below (s₁.setTop (mkF m 0 #[.val (.int p1), .val (.int p2)] [])) t → Steps p.tables e below (s₁.setTop (entryFrame m #[(.int p1), (.int p2)] 2)) t := fun t k => castTop (ef_2 m p1 p2) k
  obtain ⟨fs, hr, hrun, hended, hW, hsame⟩ := X0.leave (v := some (.int p2)) (fun h => by rw [Bd.returns] at h; cases h)
  refine ⟨_, _, pre0 _ ?_, hrun, hended, _, _, rfl, ?_, ⟨_, rfl⟩, hW, hsame.mono (by decide) (by decide)⟩
  · show Steps p.tables e below (s₁.setTop (mkF m 0 #[.val (.int p1), .val (.int p2)] [])) _
    refine XS.iloadN X0.here hx rfl (hb hby d2_0) rfl ?_
    show Steps p.tables e below (s₁.setTop (mkF m 1 #[.val (.int p1), .val (.int p2)] [(.int p1)])) _
    refine XS.iloadN X0.here hx rfl (hb hby d2_1) rfl ?_
    show Steps p.tables e below (s₁.setTop (mkF m 2 #[.val (.int p1), .val (.int p2)] [(.int p2), (.int p1)])) _
    refine XS.icmpYes X0.here hx rfl (pc0 := 2) (pc' := 9) rfl (hb hby d2_2) rfl (tlt hc2).2.2.1 (by decide) (by decide) ?_
    show Steps p.tables e below (s₁.setTop (mkF m 9 #[.val (.int p1), .val (.int p2)] [])) _
    refine XS.iloadN X0.here hx rfl (hb hby d2_9) rfl ?_
    show Steps p.tables e below (s₁.setTop (mkF m 10 #[.val (.int p1), .val (.int p2)] [(.int p2)])) _
    exact retI X0 hx Bd.returns (hb hby d2_10) hr
  · show Q2 p2 Z p1 p2 h0 n0 _ s₁.heap _
    rw [e0]
    exact ⟨rfl, N0, rfl⟩
theorem d2_5 : decode jdk_29_method_69_code 5 = .ok (.iload_n 0, 1) := by decide +kernel
theorem d2_6 : decode jdk_29_method_69_code 6 = .ok (.goto 4, 3) := by decide +kernel
set_option maxRecDepth 65536 in
set_option maxHeartbeats 40000000 in
theorem rm2_f (l : Launch) (Z : State) (a0 : Array Value) (hw : ∀ d ∈ tables_1, d.before a0 Z = true) (ws : List Jvm.Cond) (p1 : Int32) (p2 : Int32) (h0 : Heap) (n0 : Nat) (Z0 : n0 ≤ h0.size) (hc2 : ¬ (p2 < p1)) :
    MetFree l (⟨"java/lang/Math", "min", "(II)I"⟩ : MethodName) (head1 (Jvm.Cond.code (⟨"java/lang/Math", "min", "(II)I"⟩ : MethodName) jdk_29_method_69_code 2 (some .int) :: ws) ({ frames := 0, cells := 0, slots := 0, locals := 0 } : Room)) (fun a U => a = #[(.int p1), (.int p2)] ∧ Z.Warmed39 U.vm ∧ U.heap = h0) (fun _ _ _ _ _ => True) (fun _ U o U' => ∃ v L, o = .returned v ∧ Q2 p1 Z p1 p2 h0 n0 v U'.heap L ∧ FrameEnd U o U' L ({ frames := 0, cells := 0, slots := 0, locals := 0 } : Room).cells ({ frames := 0, cells := 0, slots := 0, locals := 0 } : Room).slots) := by
  refine MetFree.of_bodySF (Jvm.Free.JP.mathPlain rfl (by decide +kernel)) hisR ?_
  intro p e s m args below meth c s₁ Bd hml0 hP hK
  obtain ⟨rfl, hZ, hh⟩ := hP
  have hx := Bd.exec
  have hby := Bd.bytes
  have hml : c.maxLocals = 2 := hml0
  have hown : s.vm.findClass "java/lang/Math" = some m.cls := findClass_of_methodNamed Bd.named
  have hnm := (name_of_methodNamed Bd.named Bd.method).1
  have X0 : Stand p l e ({ frames := 0, cells := 0, slots := 0, locals := 0 } : Room) s m #[(.int p1), (.int p2)] below meth c s₁ [] 0 0 := Stand.of_body Bd
  have e0 : s₁.heap = h0 := by rw [← hh, Bd.state]; rfl
  have N0 := Fr.nil n0
  have pre0 : ∀ t, Steps p.tables e below (s₁.setTop (mkF m 0 #[.val (.int p1), .val (.int p2)] [])) t → Steps p.tables e below (s₁.setTop (entryFrame m #[(.int p1), (.int p2)] 2)) t := fun t k => castTop (ef_2 m p1 p2) k
  obtain ⟨fs, hr, hrun, hended, hW, hsame⟩ := X0.leave (v := some (.int p1)) (fun h => by rw [Bd.returns] at h; cases h)
  refine ⟨_, _, pre0 _ ?_, hrun, hended, _, _, rfl, ?_, ⟨_, rfl⟩, hW, hsame.mono (by decide) (by decide)⟩
  · show Steps p.tables e below (s₁.setTop (mkF m 0 #[.val (.int p1), .val (.int p2)] [])) _
    refine XS.iloadN X0.here hx rfl (hb hby d2_0) rfl ?_
    show Steps p.tables e below (s₁.setTop (mkF m 1 #[.val (.int p1), .val (.int p2)] [(.int p1)])) _
    refine XS.iloadN X0.here hx rfl (hb hby d2_1) rfl ?_
    show Steps p.tables e below (s₁.setTop (mkF m 2 #[.val (.int p1), .val (.int p2)] [(.int p2), (.int p1)])) _
    refine XS.icmpNo X0.here hx rfl (hb hby d2_2) rfl (flt hc2).2.2.1 ?_
    show Steps p.tables e below (s₁.setTop (mkF m 5 #[.val (.int p1), .val (.int p2)] [])) _
    refine XS.iloadN X0.here hx rfl (hb hby d2_5) rfl ?_
    show Steps p.tables e below (s₁.setTop (mkF m 6 #[.val (.int p1), .val (.int p2)] [(.int p1)])) _
    refine XS.goto X0.here hx rfl (pc0 := 6) (pc' := 10) rfl (hb hby d2_6) (by decide) (by decide) ?_
    show Steps p.tables e below (s₁.setTop (mkF m 10 #[.val (.int p1), .val (.int p2)] [(.int p1)])) _
    exact retI X0 hx Bd.returns (hb hby d2_10) hr
  · show Q2 p1 Z p1 p2 h0 n0 _ s₁.heap _
    rw [e0]
    exact ⟨rfl, N0, rfl⟩
def own_r2 (p1 : Int32) (p2 : Int32) : Int32 := (if p2 < p1 then p2 else p1)
theorem rm2 (l : Launch) (Z : State) (a0 : Array Value) (hw : ∀ d ∈ tables_1, d.before a0 Z = true) (ws : List Jvm.Cond) (p1 : Int32) (p2 : Int32) (h0 : Heap) (n0 : Nat) (Z0 : n0 ≤ h0.size) :
    MetFree l (⟨"java/lang/Math", "min", "(II)I"⟩ : MethodName) (head1 (Jvm.Cond.code (⟨"java/lang/Math", "min", "(II)I"⟩ : MethodName) jdk_29_method_69_code 2 (some .int) :: ws) ({ frames := 0, cells := 0, slots := 0, locals := 0 } : Room)) (fun a U => a = #[(.int p1), (.int p2)] ∧ Z.Warmed39 U.vm ∧ U.heap = h0) (fun _ _ _ _ _ => True) (fun _ U o U' => ∃ v L, o = .returned v ∧ Q2 (own_r2 p1 p2) Z p1 p2 h0 n0 v U'.heap L ∧ FrameEnd U o U' L ({ frames := 0, cells := 0, slots := 0, locals := 0 } : Room).cells ({ frames := 0, cells := 0, slots := 0, locals := 0 } : Room).slots) := by
  by_cases hc2 : p2 < p1
  · have e : own_r2 p1 p2 = p2 := by rw [own_r2, if_pos hc2]
    rw [e]; exact rm2_t l Z a0 hw ws p1 p2 h0 n0 Z0 hc2
  · have e : own_r2 p1 p2 = p1 := by rw [own_r2, if_neg hc2]
    rw [e]; exact rm2_f l Z a0 hw ws p1 p2 h0 n0 Z0 hc2
theorem d3_0 : decode jdk_29_method_65_code 0 = .ok (.iload_n 0, 1) := by decide +kernel
theorem d3_1 : decode jdk_29_method_65_code 1 = .ok (.iload_n 1, 1) := by decide +kernel
theorem d3_2 : decode jdk_29_method_65_code 2 = .ok (.if_icmp .lt 7, 3) := by decide +kernel
theorem d3_9 : decode jdk_29_method_65_code 9 = .ok (.iload_n 1, 1) := by decide +kernel
theorem d3_10 : decode jdk_29_method_65_code 10 = .ok (.ireturn, 1) := by decide +kernel
theorem ef_3 (m : MethodId) (x0 : Int32) (x1 : Int32) : entryFrame m #[(.int x0), (.int x1)] 2 = mkF m 0 #[.val (.int x0), .val (.int x1)] [] := by first | (simp [entryFrame, mkF, argsToLocals, Value.category]; done) | rfl
def Q3 (r : Int32) (Z : State) (p1 : Int32) (p2 : Int32) (h0 : Heap) (n0 : Nat) (v : Option Value) (h : Heap) (L : List Loc) : Prop := v = some (.int r) ∧ Fr n0 L ∧ h = h0
set_option maxRecDepth 65536 in
set_option maxHeartbeats 40000000 in
theorem rm3_t (l : Launch) (Z : State) (a0 : Array Value) (hw : ∀ d ∈ tables_1, d.before a0 Z = true) (ws : List Jvm.Cond) (p1 : Int32) (p2 : Int32) (h0 : Heap) (n0 : Nat) (Z0 : n0 ≤ h0.size) (hc2 : p1 < p2) :
    MetFree l (⟨"java/lang/Math", "max", "(II)I"⟩ : MethodName) (head1 (Jvm.Cond.code (⟨"java/lang/Math", "max", "(II)I"⟩ : MethodName) jdk_29_method_65_code 2 (some .int) :: ws) ({ frames := 0, cells := 0, slots := 0, locals := 0 } : Room)) (fun a U => a = #[(.int p1), (.int p2)] ∧ Z.Warmed39 U.vm ∧ U.heap = h0) (fun _ _ _ _ _ => True) (fun _ U o U' => ∃ v L, o = .returned v ∧ Q3 p2 Z p1 p2 h0 n0 v U'.heap L ∧ FrameEnd U o U' L ({ frames := 0, cells := 0, slots := 0, locals := 0 } : Room).cells ({ frames := 0, cells := 0, slots := 0, locals := 0 } : Room).slots) := by
  refine MetFree.of_bodySF (Jvm.Free.JP.mathPlain rfl (by decide +kernel)) hisR ?_
  intro p e s m args below meth c s₁ Bd hml0 hP hK
  obtain ⟨rfl, hZ, hh⟩ := hP
  have hx := Bd.exec
  have hby := Bd.bytes
  have hml : c.maxLocals = 2 := hml0
  have hown : s.vm.findClass "java/lang/Math" = some m.cls := findClass_of_methodNamed Bd.named
  have hnm := (name_of_methodNamed Bd.named Bd.method).1
  have X0 : Stand p l e ({ frames := 0, cells := 0, slots := 0, locals := 0 } : Room) s m #[(.int p1), (.int p2)] below meth c s₁ [] 0 0 := Stand.of_body Bd
  have e0 : s₁.heap = h0 := by rw [← hh, Bd.state]; rfl
  have N0 := Fr.nil n0
  have pre0 : ∀ t, Steps p.tables e below (s₁.setTop (mkF m 0 #[.val (.int p1), .val (.int p2)] [])) t → Steps p.tables e below (s₁.setTop (entryFrame m #[(.int p1), (.int p2)] 2)) t := fun t k => castTop (ef_3 m p1 p2) k
  obtain ⟨fs, hr, hrun, hended, hW, hsame⟩ := X0.leave (v := some (.int p2)) (fun h => by rw [Bd.returns] at h; cases h)
  refine ⟨_, _, pre0 _ ?_, hrun, hended, _, _, rfl, ?_, ⟨_, rfl⟩, hW, hsame.mono (by decide) (by decide)⟩
  · show Steps p.tables e below (s₁.setTop (mkF m 0 #[.val (.int p1), .val (.int p2)] [])) _
    refine XS.iloadN X0.here hx rfl (hb hby d3_0) rfl ?_
    show Steps p.tables e below (s₁.setTop (mkF m 1 #[.val (.int p1), .val (.int p2)] [(.int p1)])) _
    refine XS.iloadN X0.here hx rfl (hb hby d3_1) rfl ?_
    show Steps p.tables e below (s₁.setTop (mkF m 2 #[.val (.int p1), .val (.int p2)] [(.int p2), (.int p1)])) _
    refine XS.icmpYes X0.here hx rfl (pc0 := 2) (pc' := 9) rfl (hb hby d3_2) rfl (tlt hc2).1 (by decide) (by decide) ?_
    show Steps p.tables e below (s₁.setTop (mkF m 9 #[.val (.int p1), .val (.int p2)] [])) _
    refine XS.iloadN X0.here hx rfl (hb hby d3_9) rfl ?_
    show Steps p.tables e below (s₁.setTop (mkF m 10 #[.val (.int p1), .val (.int p2)] [(.int p2)])) _
    exact retI X0 hx Bd.returns (hb hby d3_10) hr
  · show Q3 p2 Z p1 p2 h0 n0 _ s₁.heap _
    rw [e0]
    exact ⟨rfl, N0, rfl⟩
theorem d3_5 : decode jdk_29_method_65_code 5 = .ok (.iload_n 0, 1) := by decide +kernel
theorem d3_6 : decode jdk_29_method_65_code 6 = .ok (.goto 4, 3) := by decide +kernel
set_option maxRecDepth 65536 in
set_option maxHeartbeats 40000000 in
theorem rm3_f (l : Launch) (Z : State) (a0 : Array Value) (hw : ∀ d ∈ tables_1, d.before a0 Z = true) (ws : List Jvm.Cond) (p1 : Int32) (p2 : Int32) (h0 : Heap) (n0 : Nat) (Z0 : n0 ≤ h0.size) (hc2 : ¬ (p1 < p2)) :
    MetFree l (⟨"java/lang/Math", "max", "(II)I"⟩ : MethodName) (head1 (Jvm.Cond.code (⟨"java/lang/Math", "max", "(II)I"⟩ : MethodName) jdk_29_method_65_code 2 (some .int) :: ws) ({ frames := 0, cells := 0, slots := 0, locals := 0 } : Room)) (fun a U => a = #[(.int p1), (.int p2)] ∧ Z.Warmed39 U.vm ∧ U.heap = h0) (fun _ _ _ _ _ => True) (fun _ U o U' => ∃ v L, o = .returned v ∧ Q3 p1 Z p1 p2 h0 n0 v U'.heap L ∧ FrameEnd U o U' L ({ frames := 0, cells := 0, slots := 0, locals := 0 } : Room).cells ({ frames := 0, cells := 0, slots := 0, locals := 0 } : Room).slots) := by
  refine MetFree.of_bodySF (Jvm.Free.JP.mathPlain rfl (by decide +kernel)) hisR ?_
  intro p e s m args below meth c s₁ Bd hml0 hP hK
  obtain ⟨rfl, hZ, hh⟩ := hP
  have hx := Bd.exec
  have hby := Bd.bytes
  have hml : c.maxLocals = 2 := hml0
  have hown : s.vm.findClass "java/lang/Math" = some m.cls := findClass_of_methodNamed Bd.named
  have hnm := (name_of_methodNamed Bd.named Bd.method).1
  have X0 : Stand p l e ({ frames := 0, cells := 0, slots := 0, locals := 0 } : Room) s m #[(.int p1), (.int p2)] below meth c s₁ [] 0 0 := Stand.of_body Bd
  have e0 : s₁.heap = h0 := by rw [← hh, Bd.state]; rfl
  have N0 := Fr.nil n0
  have pre0 : ∀ t, Steps p.tables e below (s₁.setTop (mkF m 0 #[.val (.int p1), .val (.int p2)] [])) t → Steps p.tables e below (s₁.setTop (entryFrame m #[(.int p1), (.int p2)] 2)) t := fun t k => castTop (ef_3 m p1 p2) k
  obtain ⟨fs, hr, hrun, hended, hW, hsame⟩ := X0.leave (v := some (.int p1)) (fun h => by rw [Bd.returns] at h; cases h)
  refine ⟨_, _, pre0 _ ?_, hrun, hended, _, _, rfl, ?_, ⟨_, rfl⟩, hW, hsame.mono (by decide) (by decide)⟩
  · show Steps p.tables e below (s₁.setTop (mkF m 0 #[.val (.int p1), .val (.int p2)] [])) _
    refine XS.iloadN X0.here hx rfl (hb hby d3_0) rfl ?_
    show Steps p.tables e below (s₁.setTop (mkF m 1 #[.val (.int p1), .val (.int p2)] [(.int p1)])) _
    refine XS.iloadN X0.here hx rfl (hb hby d3_1) rfl ?_
    show Steps p.tables e below (s₁.setTop (mkF m 2 #[.val (.int p1), .val (.int p2)] [(.int p2), (.int p1)])) _
    refine XS.icmpNo X0.here hx rfl (hb hby d3_2) rfl (flt hc2).1 ?_
    show Steps p.tables e below (s₁.setTop (mkF m 5 #[.val (.int p1), .val (.int p2)] [])) _
    refine XS.iloadN X0.here hx rfl (hb hby d3_5) rfl ?_
    show Steps p.tables e below (s₁.setTop (mkF m 6 #[.val (.int p1), .val (.int p2)] [(.int p1)])) _
    refine XS.goto X0.here hx rfl (pc0 := 6) (pc' := 10) rfl (hb hby d3_6) (by decide) (by decide) ?_
    show Steps p.tables e below (s₁.setTop (mkF m 10 #[.val (.int p1), .val (.int p2)] [(.int p1)])) _
    exact retI X0 hx Bd.returns (hb hby d3_10) hr
  · show Q3 p1 Z p1 p2 h0 n0 _ s₁.heap _
    rw [e0]
    exact ⟨rfl, N0, rfl⟩
def own_r3 (p1 : Int32) (p2 : Int32) : Int32 := (if p1 < p2 then p2 else p1)
theorem rm3 (l : Launch) (Z : State) (a0 : Array Value) (hw : ∀ d ∈ tables_1, d.before a0 Z = true) (ws : List Jvm.Cond) (p1 : Int32) (p2 : Int32) (h0 : Heap) (n0 : Nat) (Z0 : n0 ≤ h0.size) :
    MetFree l (⟨"java/lang/Math", "max", "(II)I"⟩ : MethodName) (head1 (Jvm.Cond.code (⟨"java/lang/Math", "max", "(II)I"⟩ : MethodName) jdk_29_method_65_code 2 (some .int) :: ws) ({ frames := 0, cells := 0, slots := 0, locals := 0 } : Room)) (fun a U => a = #[(.int p1), (.int p2)] ∧ Z.Warmed39 U.vm ∧ U.heap = h0) (fun _ _ _ _ _ => True) (fun _ U o U' => ∃ v L, o = .returned v ∧ Q3 (own_r3 p1 p2) Z p1 p2 h0 n0 v U'.heap L ∧ FrameEnd U o U' L ({ frames := 0, cells := 0, slots := 0, locals := 0 } : Room).cells ({ frames := 0, cells := 0, slots := 0, locals := 0 } : Room).slots) := by
  by_cases hc2 : p1 < p2
  · have e : own_r3 p1 p2 = p2 := by rw [own_r3, if_pos hc2]
    rw [e]; exact rm3_t l Z a0 hw ws p1 p2 h0 n0 Z0 hc2
  · have e : own_r3 p1 p2 = p1 := by rw [own_r3, if_neg hc2]
    rw [e]; exact rm3_f l Z a0 hw ws p1 p2 h0 n0 Z0 hc2
theorem d4_0 : decode method_4_code 0 = .ok (.iload_n 1, 1) := by decide +kernel
theorem d4_1 : decode method_4_code 1 = .ok (.iload_n 2, 1) := by decide +kernel
theorem d4_2 : decode method_4_code 2 = .ok (.if_icmp .lt 20, 3) := by decide +kernel
theorem d4_22 : decode method_4_code 22 = .ok (.iload 4, 2) := by decide +kernel
theorem d4_24 : decode method_4_code 24 = .ok (.ireturn, 1) := by decide +kernel
theorem pn_4 : plainName "com/example/countersign/countersign/core/LinesLineEndPinLaw" = true := by first | (simp [plainName, overriddenIn]; done) | decide +kernel
theorem ef_4 (m : MethodId) (x0 : Addr) (x1 : Int32) (x2 : Int32) (x3 : Int32) (x4 : Int32) : entryFrame m #[(.ref x0), (.int x1), (.int x2), (.int x3), (.int x4)] 5 = mkF m 0 #[.val (.ref x0), .val (.int x1), .val (.int x2), .val (.int x3), .val (.int x4)] [] := by first | (simp [entryFrame, mkF, argsToLocals, Value.category]; done) | rfl
set_option maxRecDepth 65536 in
set_option maxHeartbeats 40000000 in
theorem rm4_t (l : Launch) (Z : State) (a0 : Array Value) (hw : ∀ d ∈ tables_1, d.before a0 Z = true) (ws : List Jvm.Cond) (a1 : Addr) (p2 : Int32) (p3 : Int32) (p4 : Int32) (p5 : Int32) (h0 : Heap) (n0 : Nat) (Z0 : n0 ≤ h0.size) (hc2 : p2 < p3) :
    MetFree l (⟨"com/example/countersign/countersign/core/LinesLineEndPinLaw", "pick", "([BIIII)I"⟩ : MethodName) (head1 (Jvm.Cond.code (⟨"com/example/countersign/countersign/core/LinesLineEndPinLaw", "pick", "([BIIII)I"⟩ : MethodName) method_4_code 5 (some .int) :: ws) ({ frames := 0, cells := 0, slots := 0, locals := 0 } : Room)) (fun a U => a = #[(.ref a1), (.int p2), (.int p3), (.int p4), (.int p5)] ∧ Z.Warmed39 U.vm ∧ U.heap = h0) (fun _ _ _ _ _ => True) (fun _ U o U' => ∃ v L, o = .returned v ∧ Qv (.int p5) h0 n0 v U'.heap L ∧ FrameEnd U o U' L ({ frames := 0, cells := 0, slots := 0, locals := 0 } : Room).cells ({ frames := 0, cells := 0, slots := 0, locals := 0 } : Room).slots) := by
  refine MetFree.of_bodySF (plainFor_of_name pn_4) hisR ?_
  intro p e s m args below meth c s₁ Bd hml0 hP hK
  obtain ⟨rfl, hZ, hh⟩ := hP
  have hx := Bd.exec
  have hby := Bd.bytes
  have hml : c.maxLocals = 5 := hml0
  have hown : s.vm.findClass "com/example/countersign/countersign/core/LinesLineEndPinLaw" = some m.cls := findClass_of_methodNamed Bd.named
  have hnm := (name_of_methodNamed Bd.named Bd.method).1
  have X0 : Stand p l e ({ frames := 0, cells := 0, slots := 0, locals := 0 } : Room) s m #[(.ref a1), (.int p2), (.int p3), (.int p4), (.int p5)] below meth c s₁ [] 0 0 := Stand.of_body Bd
  have e0 : s₁.heap = h0 := by rw [← hh, Bd.state]; rfl
  have N0 := Fr.nil n0
  have pre0 : ∀ t, Steps p.tables e below (s₁.setTop (mkF m 0 #[.val (.ref a1), .val (.int p2), .val (.int p3), .val (.int p4), .val (.int p5)] [])) t → Steps p.tables e below (s₁.setTop (entryFrame m #[(.ref a1), (.int p2), (.int p3), (.int p4), (.int p5)] 5)) t := fun t k => castTop (ef_4 m a1 p2 p3 p4 p5) k
  obtain ⟨fs, hr, hrun, hended, hW, hsame⟩ := X0.leave (v := some (.int p5)) (fun h => by rw [Bd.returns] at h; cases h)
  refine ⟨_, _, pre0 _ ?_, hrun, hended, _, _, rfl, ?_, ⟨_, rfl⟩, hW, hsame.mono (by decide) (by decide)⟩
  · show Steps p.tables e below (s₁.setTop (mkF m 0 #[.val (.ref a1), .val (.int p2), .val (.int p3), .val (.int p4), .val (.int p5)] [])) _
    refine XS.iloadN X0.here hx rfl (hb hby d4_0) rfl ?_
    show Steps p.tables e below (s₁.setTop (mkF m 1 #[.val (.ref a1), .val (.int p2), .val (.int p3), .val (.int p4), .val (.int p5)] [(.int p2)])) _
    refine XS.iloadN X0.here hx rfl (hb hby d4_1) rfl ?_
    show Steps p.tables e below (s₁.setTop (mkF m 2 #[.val (.ref a1), .val (.int p2), .val (.int p3), .val (.int p4), .val (.int p5)] [(.int p3), (.int p2)])) _
    refine XS.icmpYes X0.here hx rfl (pc0 := 2) (pc' := 22) rfl (hb hby d4_2) rfl (tlt hc2).1 (by decide) (by decide) ?_
    show Steps p.tables e below (s₁.setTop (mkF m 22 #[.val (.ref a1), .val (.int p2), .val (.int p3), .val (.int p4), .val (.int p5)] [])) _
    refine XS.iload X0.here hx rfl (hb hby d4_22) rfl ?_
    show Steps p.tables e below (s₁.setTop (mkF m 24 #[.val (.ref a1), .val (.int p2), .val (.int p3), .val (.int p4), .val (.int p5)] [(.int p5)])) _
    exact retI X0 hx Bd.returns (hb hby d4_24) hr
  · show Qv (.int p5) h0 n0 _ s₁.heap _
    rw [e0]
    exact ⟨rfl, N0, rfl⟩
theorem d4_5 : decode method_4_code 5 = .ok (.iload_n 1, 1) := by decide +kernel
theorem d4_6 : decode method_4_code 6 = .ok (.iload_n 3, 1) := by decide +kernel
theorem d4_7 : decode method_4_code 7 = .ok (.if_icmp .ge 15, 3) := by decide +kernel
set_option maxRecDepth 65536 in
set_option maxHeartbeats 40000000 in
theorem rm4_ft (l : Launch) (Z : State) (a0 : Array Value) (hw : ∀ d ∈ tables_1, d.before a0 Z = true) (ws : List Jvm.Cond) (a1 : Addr) (p2 : Int32) (p3 : Int32) (p4 : Int32) (p5 : Int32) (h0 : Heap) (n0 : Nat) (Z0 : n0 ≤ h0.size) (hc2 : ¬ (p2 < p3)) (hc7 : ¬ (p2 < p4)) :
    MetFree l (⟨"com/example/countersign/countersign/core/LinesLineEndPinLaw", "pick", "([BIIII)I"⟩ : MethodName) (head1 (Jvm.Cond.code (⟨"com/example/countersign/countersign/core/LinesLineEndPinLaw", "pick", "([BIIII)I"⟩ : MethodName) method_4_code 5 (some .int) :: ws) ({ frames := 0, cells := 0, slots := 0, locals := 0 } : Room)) (fun a U => a = #[(.ref a1), (.int p2), (.int p3), (.int p4), (.int p5)] ∧ Z.Warmed39 U.vm ∧ U.heap = h0) (fun _ _ _ _ _ => True) (fun _ U o U' => ∃ v L, o = .returned v ∧ Qv (.int p5) h0 n0 v U'.heap L ∧ FrameEnd U o U' L ({ frames := 0, cells := 0, slots := 0, locals := 0 } : Room).cells ({ frames := 0, cells := 0, slots := 0, locals := 0 } : Room).slots) := by
  refine MetFree.of_bodySF (plainFor_of_name pn_4) hisR ?_
  intro p e s m args below meth c s₁ Bd hml0 hP hK
  obtain ⟨rfl, hZ, hh⟩ := hP
  have hx := Bd.exec
  have hby := Bd.bytes
  have hml : c.maxLocals = 5 := hml0
  have hown : s.vm.findClass "com/example/countersign/countersign/core/LinesLineEndPinLaw" = some m.cls := findClass_of_methodNamed Bd.named
  have hnm := (name_of_methodNamed Bd.named Bd.method).1
  have X0 : Stand p l e ({ frames := 0, cells := 0, slots := 0, locals := 0 } : Room) s m #[(.ref a1), (.int p2), (.int p3), (.int p4), (.int p5)] below meth c s₁ [] 0 0 := Stand.of_body Bd
  have e0 : s₁.heap = h0 := by rw [← hh, Bd.state]; rfl
  have N0 := Fr.nil n0
  have pre0 : ∀ t, Steps p.tables e below (s₁.setTop (mkF m 0 #[.val (.ref a1), .val (.int p2), .val (.int p3), .val (.int p4), .val (.int p5)] [])) t → Steps p.tables e below (s₁.setTop (entryFrame m #[(.ref a1), (.int p2), (.int p3), (.int p4), (.int p5)] 5)) t := fun t k => castTop (ef_4 m a1 p2 p3 p4 p5) k
  obtain ⟨fs, hr, hrun, hended, hW, hsame⟩ := X0.leave (v := some (.int p5)) (fun h => by rw [Bd.returns] at h; cases h)
  refine ⟨_, _, pre0 _ ?_, hrun, hended, _, _, rfl, ?_, ⟨_, rfl⟩, hW, hsame.mono (by decide) (by decide)⟩
  · show Steps p.tables e below (s₁.setTop (mkF m 0 #[.val (.ref a1), .val (.int p2), .val (.int p3), .val (.int p4), .val (.int p5)] [])) _
    refine XS.iloadN X0.here hx rfl (hb hby d4_0) rfl ?_
    show Steps p.tables e below (s₁.setTop (mkF m 1 #[.val (.ref a1), .val (.int p2), .val (.int p3), .val (.int p4), .val (.int p5)] [(.int p2)])) _
    refine XS.iloadN X0.here hx rfl (hb hby d4_1) rfl ?_
    show Steps p.tables e below (s₁.setTop (mkF m 2 #[.val (.ref a1), .val (.int p2), .val (.int p3), .val (.int p4), .val (.int p5)] [(.int p3), (.int p2)])) _
    refine XS.icmpNo X0.here hx rfl (hb hby d4_2) rfl (flt hc2).1 ?_
    show Steps p.tables e below (s₁.setTop (mkF m 5 #[.val (.ref a1), .val (.int p2), .val (.int p3), .val (.int p4), .val (.int p5)] [])) _
    refine XS.iloadN X0.here hx rfl (hb hby d4_5) rfl ?_
    show Steps p.tables e below (s₁.setTop (mkF m 6 #[.val (.ref a1), .val (.int p2), .val (.int p3), .val (.int p4), .val (.int p5)] [(.int p2)])) _
    refine XS.iloadN X0.here hx rfl (hb hby d4_6) rfl ?_
    show Steps p.tables e below (s₁.setTop (mkF m 7 #[.val (.ref a1), .val (.int p2), .val (.int p3), .val (.int p4), .val (.int p5)] [(.int p4), (.int p2)])) _
    refine XS.icmpYes X0.here hx rfl (pc0 := 7) (pc' := 22) rfl (hb hby d4_7) rfl (flt hc7).2.1 (by decide) (by decide) ?_
    show Steps p.tables e below (s₁.setTop (mkF m 22 #[.val (.ref a1), .val (.int p2), .val (.int p3), .val (.int p4), .val (.int p5)] [])) _
    refine XS.iload X0.here hx rfl (hb hby d4_22) rfl ?_
    show Steps p.tables e below (s₁.setTop (mkF m 24 #[.val (.ref a1), .val (.int p2), .val (.int p3), .val (.int p4), .val (.int p5)] [(.int p5)])) _
    exact retI X0 hx Bd.returns (hb hby d4_24) hr
  · show Qv (.int p5) h0 n0 _ s₁.heap _
    rw [e0]
    exact ⟨rfl, N0, rfl⟩
theorem d4_10 : decode method_4_code 10 = .ok (.aload_n 0, 1) := by decide +kernel
theorem d4_11 : decode method_4_code 11 = .ok (.iload_n 1, 1) := by decide +kernel
theorem d4_12 : decode method_4_code 12 = .ok (.baload, 1) := by decide +kernel
theorem d4_13 : decode method_4_code 13 = .ok (.bipush 10, 2) := by decide +kernel
theorem d4_15 : decode method_4_code 15 = .ok (.if_icmp .ne 7, 3) := by decide +kernel
set_option maxRecDepth 65536 in
set_option maxHeartbeats 40000000 in
theorem rm4_fft (l : Launch) (Z : State) (a0 : Array Value) (hw : ∀ d ∈ tables_1, d.before a0 Z = true) (ws : List Jvm.Cond) (a1 : Addr) (p2 : Int32) (p3 : Int32) (p4 : Int32) (p5 : Int32) (w6 : Int32) (cl_a1 : Cell) (h0 : Heap) (n0 : Nat) (Z0 : n0 ≤ h0.size) (Ar_a1 : Arr Z h0 a1 cl_a1 .byte) (hin12 : ¬ (p2 < 0 ∨ cl_a1.slots.size ≤ (p2).toNatClampNeg)) (hat12 : cl_a1.slots[(p2).toNatClampNeg]? = some (.int w6)) (hc2 : ¬ (p2 < p3)) (hc7 : p2 < p4) (hc15 : ¬ (w6 = (10 : Int32))) :
    MetFree l (⟨"com/example/countersign/countersign/core/LinesLineEndPinLaw", "pick", "([BIIII)I"⟩ : MethodName) (head1 (Jvm.Cond.code (⟨"com/example/countersign/countersign/core/LinesLineEndPinLaw", "pick", "([BIIII)I"⟩ : MethodName) method_4_code 5 (some .int) :: ws) ({ frames := 0, cells := 0, slots := 0, locals := 0 } : Room)) (fun a U => a = #[(.ref a1), (.int p2), (.int p3), (.int p4), (.int p5)] ∧ Z.Warmed39 U.vm ∧ U.heap = h0) (fun _ _ _ _ _ => True) (fun _ U o U' => ∃ v L, o = .returned v ∧ Qv (.int p5) h0 n0 v U'.heap L ∧ FrameEnd U o U' L ({ frames := 0, cells := 0, slots := 0, locals := 0 } : Room).cells ({ frames := 0, cells := 0, slots := 0, locals := 0 } : Room).slots) := by
  refine MetFree.of_bodySF (plainFor_of_name pn_4) hisR ?_
  intro p e s m args below meth c s₁ Bd hml0 hP hK
  obtain ⟨rfl, hZ, hh⟩ := hP
  have hx := Bd.exec
  have hby := Bd.bytes
  have hml : c.maxLocals = 5 := hml0
  have hown : s.vm.findClass "com/example/countersign/countersign/core/LinesLineEndPinLaw" = some m.cls := findClass_of_methodNamed Bd.named
  have hnm := (name_of_methodNamed Bd.named Bd.method).1
  have X0 : Stand p l e ({ frames := 0, cells := 0, slots := 0, locals := 0 } : Room) s m #[(.ref a1), (.int p2), (.int p3), (.int p4), (.int p5)] below meth c s₁ [] 0 0 := Stand.of_body Bd
  have e0 : s₁.heap = h0 := by rw [← hh, Bd.state]; rfl
  have N0 := Fr.nil n0
  have pre0 : ∀ t, Steps p.tables e below (s₁.setTop (mkF m 0 #[.val (.ref a1), .val (.int p2), .val (.int p3), .val (.int p4), .val (.int p5)] [])) t → Steps p.tables e below (s₁.setTop (entryFrame m #[(.ref a1), (.int p2), (.int p3), (.int p4), (.int p5)] 5)) t := fun t k => castTop (ef_4 m a1 p2 p3 p4 p5) k
  obtain ⟨fs, hr, hrun, hended, hW, hsame⟩ := X0.leave (v := some (.int p5)) (fun h => by rw [Bd.returns] at h; cases h)
  refine ⟨_, _, pre0 _ ?_, hrun, hended, _, _, rfl, ?_, ⟨_, rfl⟩, hW, hsame.mono (by decide) (by decide)⟩
  · show Steps p.tables e below (s₁.setTop (mkF m 0 #[.val (.ref a1), .val (.int p2), .val (.int p3), .val (.int p4), .val (.int p5)] [])) _
    refine XS.iloadN X0.here hx rfl (hb hby d4_0) rfl ?_
    show Steps p.tables e below (s₁.setTop (mkF m 1 #[.val (.ref a1), .val (.int p2), .val (.int p3), .val (.int p4), .val (.int p5)] [(.int p2)])) _
    refine XS.iloadN X0.here hx rfl (hb hby d4_1) rfl ?_
    show Steps p.tables e below (s₁.setTop (mkF m 2 #[.val (.ref a1), .val (.int p2), .val (.int p3), .val (.int p4), .val (.int p5)] [(.int p3), (.int p2)])) _
    refine XS.icmpNo X0.here hx rfl (hb hby d4_2) rfl (flt hc2).1 ?_
    show Steps p.tables e below (s₁.setTop (mkF m 5 #[.val (.ref a1), .val (.int p2), .val (.int p3), .val (.int p4), .val (.int p5)] [])) _
    refine XS.iloadN X0.here hx rfl (hb hby d4_5) rfl ?_
    show Steps p.tables e below (s₁.setTop (mkF m 6 #[.val (.ref a1), .val (.int p2), .val (.int p3), .val (.int p4), .val (.int p5)] [(.int p2)])) _
    refine XS.iloadN X0.here hx rfl (hb hby d4_6) rfl ?_
    show Steps p.tables e below (s₁.setTop (mkF m 7 #[.val (.ref a1), .val (.int p2), .val (.int p3), .val (.int p4), .val (.int p5)] [(.int p4), (.int p2)])) _
    refine XS.icmpNo X0.here hx rfl (hb hby d4_7) rfl (tlt hc7).2.1 ?_
    show Steps p.tables e below (s₁.setTop (mkF m 10 #[.val (.ref a1), .val (.int p2), .val (.int p3), .val (.int p4), .val (.int p5)] [])) _
    refine XS.aloadN X0.here hx rfl (hb hby d4_10) rfl rfl ?_
    show Steps p.tables e below (s₁.setTop (mkF m 11 #[.val (.ref a1), .val (.int p2), .val (.int p3), .val (.int p4), .val (.int p5)] [(.ref a1)])) _
    refine XS.iloadN X0.here hx rfl (hb hby d4_11) rfl ?_
    show Steps p.tables e below (s₁.setTop (mkF m 12 #[.val (.ref a1), .val (.int p2), .val (.int p3), .val (.int p4), .val (.int p5)] [(.int p2), (.ref a1)])) _
    refine X0.baloadBytes hx (j := p2) (v := (.int w6)) (by rw [e0]; exact Ar_a1.1) (State.isArrayOf_alike hZ.alike Ar_a1.2.1) Ar_a1.2.2 hin12 hat12 (g := (mkF m 12 #[.val (.ref a1), .val (.int p2), .val (.int p3), .val (.int p4), .val (.int p5)] [(.int p2), (.ref a1)])) rfl rfl (hb hby d4_12) _ ?_
    show Steps p.tables e below (s₁.setTop (mkF m 13 #[.val (.ref a1), .val (.int p2), .val (.int p3), .val (.int p4), .val (.int p5)] [(.int w6)])) _
    refine XS.bipush X0.here hx rfl (hb hby d4_13) ?_
    show Steps p.tables e below (s₁.setTop (mkF m 15 #[.val (.ref a1), .val (.int p2), .val (.int p3), .val (.int p4), .val (.int p5)] [(.int (10 : Int32)), (.int w6)])) _
    refine XS.icmpYes X0.here hx rfl (pc0 := 15) (pc' := 22) rfl (hb hby d4_15) rfl (feq hc15).2 (by decide) (by decide) ?_
    show Steps p.tables e below (s₁.setTop (mkF m 22 #[.val (.ref a1), .val (.int p2), .val (.int p3), .val (.int p4), .val (.int p5)] [])) _
    refine XS.iload X0.here hx rfl (hb hby d4_22) rfl ?_
    show Steps p.tables e below (s₁.setTop (mkF m 24 #[.val (.ref a1), .val (.int p2), .val (.int p3), .val (.int p4), .val (.int p5)] [(.int p5)])) _
    exact retI X0 hx Bd.returns (hb hby d4_24) hr
  · show Qv (.int p5) h0 n0 _ s₁.heap _
    rw [e0]
    exact ⟨rfl, N0, rfl⟩
theorem d4_18 : decode method_4_code 18 = .ok (.iload_n 1, 1) := by decide +kernel
theorem d4_19 : decode method_4_code 19 = .ok (.goto 5, 3) := by decide +kernel
set_option maxRecDepth 65536 in
set_option maxHeartbeats 40000000 in
theorem rm4_fff (l : Launch) (Z : State) (a0 : Array Value) (hw : ∀ d ∈ tables_1, d.before a0 Z = true) (ws : List Jvm.Cond) (a1 : Addr) (p2 : Int32) (p3 : Int32) (p4 : Int32) (p5 : Int32) (w6 : Int32) (cl_a1 : Cell) (h0 : Heap) (n0 : Nat) (Z0 : n0 ≤ h0.size) (Ar_a1 : Arr Z h0 a1 cl_a1 .byte) (hin12 : ¬ (p2 < 0 ∨ cl_a1.slots.size ≤ (p2).toNatClampNeg)) (hat12 : cl_a1.slots[(p2).toNatClampNeg]? = some (.int w6)) (hc2 : ¬ (p2 < p3)) (hc7 : p2 < p4) (hc15 : w6 = (10 : Int32)) :
    MetFree l (⟨"com/example/countersign/countersign/core/LinesLineEndPinLaw", "pick", "([BIIII)I"⟩ : MethodName) (head1 (Jvm.Cond.code (⟨"com/example/countersign/countersign/core/LinesLineEndPinLaw", "pick", "([BIIII)I"⟩ : MethodName) method_4_code 5 (some .int) :: ws) ({ frames := 0, cells := 0, slots := 0, locals := 0 } : Room)) (fun a U => a = #[(.ref a1), (.int p2), (.int p3), (.int p4), (.int p5)] ∧ Z.Warmed39 U.vm ∧ U.heap = h0) (fun _ _ _ _ _ => True) (fun _ U o U' => ∃ v L, o = .returned v ∧ Qv (.int p2) h0 n0 v U'.heap L ∧ FrameEnd U o U' L ({ frames := 0, cells := 0, slots := 0, locals := 0 } : Room).cells ({ frames := 0, cells := 0, slots := 0, locals := 0 } : Room).slots) := by
  refine MetFree.of_bodySF (plainFor_of_name pn_4) hisR ?_
  intro p e s m args below meth c s₁ Bd hml0 hP hK
  obtain ⟨rfl, hZ, hh⟩ := hP
  have hx := Bd.exec
  have hby := Bd.bytes
  have hml : c.maxLocals = 5 := hml0
  have hown : s.vm.findClass "com/example/countersign/countersign/core/LinesLineEndPinLaw" = some m.cls := findClass_of_methodNamed Bd.named
  have hnm := (name_of_methodNamed Bd.named Bd.method).1
  have X0 : Stand p l e ({ frames := 0, cells := 0, slots := 0, locals := 0 } : Room) s m #[(.ref a1), (.int p2), (.int p3), (.int p4), (.int p5)] below meth c s₁ [] 0 0 := Stand.of_body Bd
  have e0 : s₁.heap = h0 := by rw [← hh, Bd.state]; rfl
  have N0 := Fr.nil n0
  have pre0 : ∀ t, Steps p.tables e below (s₁.setTop (mkF m 0 #[.val (.ref a1), .val (.int p2), .val (.int p3), .val (.int p4), .val (.int p5)] [])) t → Steps p.tables e below (s₁.setTop (entryFrame m #[(.ref a1), (.int p2), (.int p3), (.int p4), (.int p5)] 5)) t := fun t k => castTop (ef_4 m a1 p2 p3 p4 p5) k
  obtain ⟨fs, hr, hrun, hended, hW, hsame⟩ := X0.leave (v := some (.int p2)) (fun h => by rw [Bd.returns] at h; cases h)
  refine ⟨_, _, pre0 _ ?_, hrun, hended, _, _, rfl, ?_, ⟨_, rfl⟩, hW, hsame.mono (by decide) (by decide)⟩
  · show Steps p.tables e below (s₁.setTop (mkF m 0 #[.val (.ref a1), .val (.int p2), .val (.int p3), .val (.int p4), .val (.int p5)] [])) _
    refine XS.iloadN X0.here hx rfl (hb hby d4_0) rfl ?_
    show Steps p.tables e below (s₁.setTop (mkF m 1 #[.val (.ref a1), .val (.int p2), .val (.int p3), .val (.int p4), .val (.int p5)] [(.int p2)])) _
    refine XS.iloadN X0.here hx rfl (hb hby d4_1) rfl ?_
    show Steps p.tables e below (s₁.setTop (mkF m 2 #[.val (.ref a1), .val (.int p2), .val (.int p3), .val (.int p4), .val (.int p5)] [(.int p3), (.int p2)])) _
    refine XS.icmpNo X0.here hx rfl (hb hby d4_2) rfl (flt hc2).1 ?_
    show Steps p.tables e below (s₁.setTop (mkF m 5 #[.val (.ref a1), .val (.int p2), .val (.int p3), .val (.int p4), .val (.int p5)] [])) _
    refine XS.iloadN X0.here hx rfl (hb hby d4_5) rfl ?_
    show Steps p.tables e below (s₁.setTop (mkF m 6 #[.val (.ref a1), .val (.int p2), .val (.int p3), .val (.int p4), .val (.int p5)] [(.int p2)])) _
    refine XS.iloadN X0.here hx rfl (hb hby d4_6) rfl ?_
    show Steps p.tables e below (s₁.setTop (mkF m 7 #[.val (.ref a1), .val (.int p2), .val (.int p3), .val (.int p4), .val (.int p5)] [(.int p4), (.int p2)])) _
    refine XS.icmpNo X0.here hx rfl (hb hby d4_7) rfl (tlt hc7).2.1 ?_
    show Steps p.tables e below (s₁.setTop (mkF m 10 #[.val (.ref a1), .val (.int p2), .val (.int p3), .val (.int p4), .val (.int p5)] [])) _
    refine XS.aloadN X0.here hx rfl (hb hby d4_10) rfl rfl ?_
    show Steps p.tables e below (s₁.setTop (mkF m 11 #[.val (.ref a1), .val (.int p2), .val (.int p3), .val (.int p4), .val (.int p5)] [(.ref a1)])) _
    refine XS.iloadN X0.here hx rfl (hb hby d4_11) rfl ?_
    show Steps p.tables e below (s₁.setTop (mkF m 12 #[.val (.ref a1), .val (.int p2), .val (.int p3), .val (.int p4), .val (.int p5)] [(.int p2), (.ref a1)])) _
    refine X0.baloadBytes hx (j := p2) (v := (.int w6)) (by rw [e0]; exact Ar_a1.1) (State.isArrayOf_alike hZ.alike Ar_a1.2.1) Ar_a1.2.2 hin12 hat12 (g := (mkF m 12 #[.val (.ref a1), .val (.int p2), .val (.int p3), .val (.int p4), .val (.int p5)] [(.int p2), (.ref a1)])) rfl rfl (hb hby d4_12) _ ?_
    show Steps p.tables e below (s₁.setTop (mkF m 13 #[.val (.ref a1), .val (.int p2), .val (.int p3), .val (.int p4), .val (.int p5)] [(.int w6)])) _
    refine XS.bipush X0.here hx rfl (hb hby d4_13) ?_
    show Steps p.tables e below (s₁.setTop (mkF m 15 #[.val (.ref a1), .val (.int p2), .val (.int p3), .val (.int p4), .val (.int p5)] [(.int (10 : Int32)), (.int w6)])) _
    refine XS.icmpNo X0.here hx rfl (hb hby d4_15) rfl (teq hc15).2 ?_
    show Steps p.tables e below (s₁.setTop (mkF m 18 #[.val (.ref a1), .val (.int p2), .val (.int p3), .val (.int p4), .val (.int p5)] [])) _
    refine XS.iloadN X0.here hx rfl (hb hby d4_18) rfl ?_
    show Steps p.tables e below (s₁.setTop (mkF m 19 #[.val (.ref a1), .val (.int p2), .val (.int p3), .val (.int p4), .val (.int p5)] [(.int p2)])) _
    refine XS.goto X0.here hx rfl (pc0 := 19) (pc' := 24) rfl (hb hby d4_19) (by decide) (by decide) ?_
    show Steps p.tables e below (s₁.setTop (mkF m 24 #[.val (.ref a1), .val (.int p2), .val (.int p3), .val (.int p4), .val (.int p5)] [(.int p2)])) _
    exact retI X0 hx Bd.returns (hb hby d4_24) hr
  · show Qv (.int p2) h0 n0 _ s₁.heap _
    rw [e0]
    exact ⟨rfl, N0, rfl⟩
def own_pk (w p s l cur : Int32) : Int32 := if p < s then cur else if p < l then (if w = (10 : Int32) then p else cur) else cur
theorem rm4 (l : Launch) (Z : State) (a0 : Array Value) (hw : ∀ d ∈ tables_1, d.before a0 Z = true) (ws : List Jvm.Cond) (a1 : Addr) (p2 p3 p4 p5 w6 : Int32) (cl_a1 : Cell) (h0 : Heap) (n0 : Nat) (Z0 : n0 ≤ h0.size) (Ar_a1 : Arr Z h0 a1 cl_a1 .byte) (hin12 : ¬ (p2 < 0 ∨ cl_a1.slots.size ≤ (p2).toNatClampNeg)) (hat12 : cl_a1.slots[(p2).toNatClampNeg]? = some (.int w6)) :
    MetFree l (⟨"com/example/countersign/countersign/core/LinesLineEndPinLaw", "pick", "([BIIII)I"⟩ : MethodName) (head1 (Jvm.Cond.code (⟨"com/example/countersign/countersign/core/LinesLineEndPinLaw", "pick", "([BIIII)I"⟩ : MethodName) method_4_code 5 (some .int) :: ws) ({ frames := 0, cells := 0, slots := 0, locals := 0 } : Room)) (fun a U => a = #[(.ref a1), (.int p2), (.int p3), (.int p4), (.int p5)] ∧ Z.Warmed39 U.vm ∧ U.heap = h0) (fun _ _ _ _ _ => True) (fun _ U o U' => ∃ v L, o = .returned v ∧ Qv (.int (own_pk w6 p2 p3 p4 p5)) h0 n0 v U'.heap L ∧ FrameEnd U o U' L ({ frames := 0, cells := 0, slots := 0, locals := 0 } : Room).cells ({ frames := 0, cells := 0, slots := 0, locals := 0 } : Room).slots) := by
  by_cases hc2 : p2 < p3
  · rw [own_pk, if_pos hc2]; exact rm4_t l Z a0 hw ws a1 p2 p3 p4 p5 h0 n0 Z0 hc2
  · by_cases hc7 : p2 < p4
    · by_cases hc15 : w6 = (10 : Int32)
      · rw [own_pk, if_neg hc2, if_pos hc7, if_pos hc15]; exact rm4_fff l Z a0 hw ws a1 p2 p3 p4 p5 w6 cl_a1 h0 n0 Z0 Ar_a1 hin12 hat12 hc2 hc7 hc15
      · rw [own_pk, if_neg hc2, if_pos hc7, if_neg hc15]; exact rm4_fft l Z a0 hw ws a1 p2 p3 p4 p5 w6 cl_a1 h0 n0 Z0 Ar_a1 hin12 hat12 hc2 hc7 hc15
    · rw [own_pk, if_neg hc2, if_neg hc7]; exact rm4_ft l Z a0 hw ws a1 p2 p3 p4 p5 h0 n0 Z0 hc2 hc7
theorem d5_2 : decode prog_7_method_2_code 2 = .ok (.iload_n 3, 1) := by decide +kernel
theorem d5_3 : decode prog_7_method_2_code 3 = .ok (.iload_n 2, 1) := by decide +kernel
theorem d5_4 : decode prog_7_method_2_code 4 = .ok (.if_icmp .ge 17, 3) := by decide +kernel
theorem d5_7 : decode prog_7_method_2_code 7 = .ok (.aload_n 0, 1) := by decide +kernel
theorem d5_8 : decode prog_7_method_2_code 8 = .ok (.iload_n 3, 1) := by decide +kernel
theorem d5_9 : decode prog_7_method_2_code 9 = .ok (.baload, 1) := by decide +kernel
theorem d5_10 : decode prog_7_method_2_code 10 = .ok (.bipush 10, 2) := by decide +kernel
theorem d5_12 : decode prog_7_method_2_code 12 = .ok (.if_icmp .eq 9, 3) := by decide +kernel
theorem d5_15 : decode prog_7_method_2_code 15 = .ok (.iinc 3 1, 3) := by decide +kernel
theorem d5_18 : decode prog_7_method_2_code 18 = .ok (.goto (-16), 3) := by decide +kernel
set_option maxRecDepth 65536 in
set_option maxHeartbeats 40000000 in
theorem own_turn {p : Program} {l : Launch} {e : Env} {R : Room} {s : State} {m : MethodId} {args : Array Value} {below : List Frame} {meth : Method} {c : Code} {T0 : State} {locs : List Loc} {cells slots : Nat} {Z : State} {h0 : Heap} {o0 : Addr} {s1 : Slot} {i2 : Int32} {i3 : Int32} {w4 : Int32} {cl_o0 : Cell}
    (X0 : Stand p l e R s m args below meth c T0 locs cells slots) (hx : p.tables.exec = Jvm.exec) (hZ : Z.Warmed39 s.vm) (hby : c.code = prog_7_method_2_code) (e0 : T0.heap = h0) (Ar_o0 : Arr Z h0 o0 cl_o0 .byte) (hin9 : ¬ (i3 < 0 ∨ cl_o0.slots.size ≤ (i3).toNatClampNeg)) (hat9 : cl_o0.slots[(i3).toNatClampNeg]? = some (.int w4)) (hc4 : i3 < i2) (hc12 : ¬ (w4 = (10 : Int32))) :
    ∀ target, Steps p.tables e below (T0.setTop (mkF m 2 #[.val (.ref o0), s1, .val (.int i2), .val (.int (i3 + (1 : Int32)))] [])) target → Steps p.tables e below (T0.setTop (mkF m 2 #[.val (.ref o0), s1, .val (.int i2), .val (.int i3)] [])) target := by
  intro target kt
  show Steps p.tables e below (T0.setTop (mkF m 2 #[.val (.ref o0), s1, .val (.int i2), .val (.int i3)] [])) _
  refine XS.iloadN X0.here hx rfl (hb hby d5_2) rfl ?_
  show Steps p.tables e below (T0.setTop (mkF m 3 #[.val (.ref o0), s1, .val (.int i2), .val (.int i3)] [(.int i3)])) _
  refine XS.iloadN X0.here hx rfl (hb hby d5_3) rfl ?_
  show Steps p.tables e below (T0.setTop (mkF m 4 #[.val (.ref o0), s1, .val (.int i2), .val (.int i3)] [(.int i2), (.int i3)])) _
  refine XS.icmpNo X0.here hx rfl (hb hby d5_4) rfl (tlt hc4).2.1 ?_
  show Steps p.tables e below (T0.setTop (mkF m 7 #[.val (.ref o0), s1, .val (.int i2), .val (.int i3)] [])) _
  refine XS.aloadN X0.here hx rfl (hb hby d5_7) rfl rfl ?_
  show Steps p.tables e below (T0.setTop (mkF m 8 #[.val (.ref o0), s1, .val (.int i2), .val (.int i3)] [(.ref o0)])) _
  refine XS.iloadN X0.here hx rfl (hb hby d5_8) rfl ?_
  show Steps p.tables e below (T0.setTop (mkF m 9 #[.val (.ref o0), s1, .val (.int i2), .val (.int i3)] [(.int i3), (.ref o0)])) _
  refine X0.baloadBytes hx (j := i3) (v := (.int w4)) (by rw [e0]; exact Ar_o0.1) (State.isArrayOf_alike hZ.alike Ar_o0.2.1) Ar_o0.2.2 hin9 hat9 (g := (mkF m 9 #[.val (.ref o0), s1, .val (.int i2), .val (.int i3)] [(.int i3), (.ref o0)])) rfl rfl (hb hby d5_9) _ ?_
  show Steps p.tables e below (T0.setTop (mkF m 10 #[.val (.ref o0), s1, .val (.int i2), .val (.int i3)] [(.int w4)])) _
  refine XS.bipush X0.here hx rfl (hb hby d5_10) ?_
  show Steps p.tables e below (T0.setTop (mkF m 12 #[.val (.ref o0), s1, .val (.int i2), .val (.int i3)] [(.int (10 : Int32)), (.int w4)])) _
  refine XS.icmpNo X0.here hx rfl (hb hby d5_12) rfl (feq hc12).1 ?_
  show Steps p.tables e below (T0.setTop (mkF m 15 #[.val (.ref o0), s1, .val (.int i2), .val (.int i3)] [])) _
  refine XS.iinc X0.here hx rfl (hb hby d5_15) rfl (l' := #[.val (.ref o0), s1, .val (.int i2), .val (.int (i3 + (1 : Int32)))]) rfl ?_
  show Steps p.tables e below (T0.setTop (mkF m 18 #[.val (.ref o0), s1, .val (.int i2), .val (.int (i3 + (1 : Int32)))] [])) _
  refine XS.goto X0.here hx rfl (pc0 := 18) (pc' := 2) rfl (hb hby d5_18) (by decide) (by decide) ?_
  exact kt
set_option maxRecDepth 65536 in
set_option maxHeartbeats 40000000 in
theorem own_hit {p : Program} {l : Launch} {e : Env} {R : Room} {s : State} {m : MethodId} {args : Array Value} {below : List Frame} {meth : Method} {c : Code} {T0 : State} {locs : List Loc} {cells slots : Nat} {Z : State} {h0 : Heap} {o0 : Addr} {s1 : Slot} {i2 : Int32} {i3 : Int32} {w4 : Int32} {cl_o0 : Cell}
    (X0 : Stand p l e R s m args below meth c T0 locs cells slots) (hx : p.tables.exec = Jvm.exec) (hZ : Z.Warmed39 s.vm) (hby : c.code = prog_7_method_2_code) (e0 : T0.heap = h0) (Ar_o0 : Arr Z h0 o0 cl_o0 .byte) (hin9 : ¬ (i3 < 0 ∨ cl_o0.slots.size ≤ (i3).toNatClampNeg)) (hat9 : cl_o0.slots[(i3).toNatClampNeg]? = some (.int w4)) (hc4 : i3 < i2) (hc12 : w4 = (10 : Int32)) :
    ∀ target, Steps p.tables e below (T0.setTop (mkF m 21 #[.val (.ref o0), s1, .val (.int i2), .val (.int i3)] [])) target → Steps p.tables e below (T0.setTop (mkF m 2 #[.val (.ref o0), s1, .val (.int i2), .val (.int i3)] [])) target := by
  intro target kt
  show Steps p.tables e below (T0.setTop (mkF m 2 #[.val (.ref o0), s1, .val (.int i2), .val (.int i3)] [])) _
  refine XS.iloadN X0.here hx rfl (hb hby d5_2) rfl ?_
  show Steps p.tables e below (T0.setTop (mkF m 3 #[.val (.ref o0), s1, .val (.int i2), .val (.int i3)] [(.int i3)])) _
  refine XS.iloadN X0.here hx rfl (hb hby d5_3) rfl ?_
  show Steps p.tables e below (T0.setTop (mkF m 4 #[.val (.ref o0), s1, .val (.int i2), .val (.int i3)] [(.int i2), (.int i3)])) _
  refine XS.icmpNo X0.here hx rfl (hb hby d5_4) rfl (tlt hc4).2.1 ?_
  show Steps p.tables e below (T0.setTop (mkF m 7 #[.val (.ref o0), s1, .val (.int i2), .val (.int i3)] [])) _
  refine XS.aloadN X0.here hx rfl (hb hby d5_7) rfl rfl ?_
  show Steps p.tables e below (T0.setTop (mkF m 8 #[.val (.ref o0), s1, .val (.int i2), .val (.int i3)] [(.ref o0)])) _
  refine XS.iloadN X0.here hx rfl (hb hby d5_8) rfl ?_
  show Steps p.tables e below (T0.setTop (mkF m 9 #[.val (.ref o0), s1, .val (.int i2), .val (.int i3)] [(.int i3), (.ref o0)])) _
  refine X0.baloadBytes hx (j := i3) (v := (.int w4)) (by rw [e0]; exact Ar_o0.1) (State.isArrayOf_alike hZ.alike Ar_o0.2.1) Ar_o0.2.2 hin9 hat9 (g := (mkF m 9 #[.val (.ref o0), s1, .val (.int i2), .val (.int i3)] [(.int i3), (.ref o0)])) rfl rfl (hb hby d5_9) _ ?_
  show Steps p.tables e below (T0.setTop (mkF m 10 #[.val (.ref o0), s1, .val (.int i2), .val (.int i3)] [(.int w4)])) _
  refine XS.bipush X0.here hx rfl (hb hby d5_10) ?_
  show Steps p.tables e below (T0.setTop (mkF m 12 #[.val (.ref o0), s1, .val (.int i2), .val (.int i3)] [(.int (10 : Int32)), (.int w4)])) _
  refine XS.icmpYes X0.here hx rfl (pc0 := 12) (pc' := 21) rfl (hb hby d5_12) rfl (teq hc12).1 (by decide) (by decide) ?_
  exact kt
set_option maxRecDepth 65536 in
set_option maxHeartbeats 40000000 in
theorem own_out {p : Program} {l : Launch} {e : Env} {R : Room} {s : State} {m : MethodId} {args : Array Value} {below : List Frame} {meth : Method} {c : Code} {T0 : State} {locs : List Loc} {cells slots : Nat} {s0 : Slot} {s1 : Slot} {i2 : Int32} {i3 : Int32}
    (X0 : Stand p l e R s m args below meth c T0 locs cells slots) (hx : p.tables.exec = Jvm.exec) (hby : c.code = prog_7_method_2_code) (hc4 : ¬ (i3 < i2)) :
    ∀ target, Steps p.tables e below (T0.setTop (mkF m 21 #[s0, s1, .val (.int i2), .val (.int i3)] [])) target → Steps p.tables e below (T0.setTop (mkF m 2 #[s0, s1, .val (.int i2), .val (.int i3)] [])) target := by
  intro target kt
  show Steps p.tables e below (T0.setTop (mkF m 2 #[s0, s1, .val (.int i2), .val (.int i3)] [])) _
  refine XS.iloadN X0.here hx rfl (hb hby d5_2) rfl ?_
  show Steps p.tables e below (T0.setTop (mkF m 3 #[s0, s1, .val (.int i2), .val (.int i3)] [(.int i3)])) _
  refine XS.iloadN X0.here hx rfl (hb hby d5_3) rfl ?_
  show Steps p.tables e below (T0.setTop (mkF m 4 #[s0, s1, .val (.int i2), .val (.int i3)] [(.int i2), (.int i3)])) _
  refine XS.icmpYes X0.here hx rfl (pc0 := 4) (pc' := 21) rfl (hb hby d5_4) rfl (flt hc4).2.1 (by decide) (by decide) ?_
  exact kt
def own_le (f : Nat → Int32) : Nat → Nat → Nat
  | i, 0 => i
  | i, k + 1 => if f i = (10 : Int32) then i else own_le f (i + 1) k
theorem own_lt {i n : Nat} (h : i < n) (hn : n < 2 ^ 31) : Int32.ofNat i < Int32.ofNat n := by
  rw [Int32.lt_iff_toInt_lt, Int32.toInt_ofNat_of_lt (by omega), Int32.toInt_ofNat_of_lt (by omega)]
  omega
theorem own_nlt {i n : Nat} (h : n ≤ i) (hn : i < 2 ^ 31) : ¬ Int32.ofNat i < Int32.ofNat n := by
  rw [Int32.lt_iff_toInt_lt, Int32.toInt_ofNat_of_lt (by omega), Int32.toInt_ofNat_of_lt (by omega)]
  omega
theorem own_one (i : Nat) : Int32.ofNat i + (1 : Int32) = Int32.ofNat (i + 1) := (Int32.ofNat_add i 1).symm
theorem own_loop {p : Program} {l : Launch} {e : Env} {R : Room} {s : State} {m : MethodId} {args : Array Value} {below : List Frame} {meth : Method} {c : Code} {T0 : State} {locs : List Loc} {cells slots : Nat} {Z : State} {h0 : Heap} {o0 : Addr} {s1 : Slot} {cl_o0 : Cell} (f : Nat → Int32) (n : Nat) (hn : n < 2 ^ 31)
    (X0 : Stand p l e R s m args below meth c T0 locs cells slots) (hx : p.tables.exec = Jvm.exec) (hZ : Z.Warmed39 s.vm) (hby : c.code = prog_7_method_2_code) (e0 : T0.heap = h0) (Ar : Arr Z h0 o0 cl_o0 .byte) (hsz : n ≤ cl_o0.slots.size) (hat : ∀ j, j < n → cl_o0.slots[j]? = some (.int (f j))) :
    ∀ k i, i + k = n → ∀ target, Steps p.tables e below (T0.setTop (mkF m 21 #[.val (.ref o0), s1, .val (.int (Int32.ofNat n)), .val (.int (Int32.ofNat (own_le f i k)))] [])) target → Steps p.tables e below (T0.setTop (mkF m 2 #[.val (.ref o0), s1, .val (.int (Int32.ofNat n)), .val (.int (Int32.ofNat i))] [])) target := by
  intro k
  induction k with
  | zero => intro i hi target kt; exact own_out X0 hx hby (own_nlt (by omega) (by omega)) target kt
  | succ k ih =>
    intro i hi target kt
    have c1 : (Int32.ofNat i).toNatClampNeg = i := Int32.toNatClampNeg_ofNat_of_lt (by omega)
    have hin : ¬ (Int32.ofNat i < 0 ∨ cl_o0.slots.size ≤ (Int32.ofNat i).toNatClampNeg) := by
      rw [c1]; rintro (q | q)
      · exact own_nlt (n := 0) (i := i) (by omega) (by omega) q
      · omega
    have ha : cl_o0.slots[(Int32.ofNat i).toNatClampNeg]? = some (.int (f i)) := by rw [c1]; exact hat i (by omega)
    by_cases q : f i = (10 : Int32)
    · rw [own_le, if_pos q] at kt
      exact own_hit X0 hx hZ hby e0 Ar hin ha (own_lt (by omega) hn) q target kt
    · rw [own_le, if_neg q] at kt
      refine own_turn X0 hx hZ hby e0 Ar hin ha (own_lt (by omega) hn) q target ?_
      rw [own_one]
      exact ih (i + 1) (by omega) target kt
theorem own_loop' {p : Program} {l : Launch} {e : Env} {R : Room} {s : State} {m : MethodId} {args : Array Value} {below : List Frame} {meth : Method} {c : Code} {T0 : State} {locs : List Loc} {cells slots : Nat} {Z : State} {h0 : Heap} {o0 : Addr} {s1 : Slot} {cl_o0 : Cell} {p2 p3 : Int32} (f : Nat → Int32) (b n : Nat) (hn : n < 2 ^ 31) (hbn : b ≤ n) (h2 : p2 = Int32.ofNat b) (h3 : p3 = Int32.ofNat n)
    (X0 : Stand p l e R s m args below meth c T0 locs cells slots) (hx : p.tables.exec = Jvm.exec) (hZ : Z.Warmed39 s.vm) (hby : c.code = prog_7_method_2_code) (e0 : T0.heap = h0) (Ar : Arr Z h0 o0 cl_o0 .byte) (hsz : n ≤ cl_o0.slots.size) (hat : ∀ j, j < n → cl_o0.slots[j]? = some (.int (f j))) :
    ∀ target, Steps p.tables e below (T0.setTop (mkF m 21 #[.val (.ref o0), s1, .val (.int p3), .val (.int (Int32.ofNat (own_le f b (n - b))))] [])) target → Steps p.tables e below (T0.setTop (mkF m 2 #[.val (.ref o0), s1, .val (.int p3), .val (.int p2)] [])) target := by
  subst h2; subst h3
  exact own_loop f n hn X0 hx hZ hby e0 Ar hsz hat (n - b) b (by omega)
theorem d5_0 : decode prog_7_method_2_code 0 = .ok (.iload_n 1, 1) := by decide +kernel
theorem d5_1 : decode prog_7_method_2_code 1 = .ok (.istore_n 3, 1) := by decide +kernel
theorem d5_21 : decode prog_7_method_2_code 21 = .ok (.iload_n 3, 1) := by decide +kernel
theorem d5_22 : decode prog_7_method_2_code 22 = .ok (.ireturn, 1) := by decide +kernel
theorem pn_5 : plainName "com/example/countersign/countersign/core/Lines" = true := by first | (simp [plainName, overriddenIn]; done) | decide +kernel
theorem ef_5 (m : MethodId) (x0 : Addr) (x1 : Int32) (x2 : Int32) : entryFrame m #[(.ref x0), (.int x1), (.int x2)] 4 = mkF m 0 #[.val (.ref x0), .val (.int x1), .val (.int x2), .unset] [] := by first | (simp [entryFrame, mkF, argsToLocals, Value.category]; done) | rfl
set_option maxRecDepth 65536 in
set_option maxHeartbeats 40000000 in
theorem rm5 (l : Launch) (Z : State) (a0 : Array Value) (hw : ∀ d ∈ tables_1, d.before a0 Z = true) (ws : List Jvm.Cond) (a1 : Addr) (p2 : Int32) (p3 : Int32) (f : Nat → Int32) (b n : Nat) (cl : Cell) (h0 : Heap) (n0 : Nat) (Z0 : n0 ≤ h0.size) (hn : n < 2 ^ 31) (hbn : b ≤ n) (hp2 : p2 = Int32.ofNat b) (hp3 : p3 = Int32.ofNat n) (Ar : Arr Z h0 a1 cl .byte) (hsz : n ≤ cl.slots.size) (hat : ∀ j, j < n → cl.slots[j]? = some (.int (f j))) :
    MetFree l (⟨"com/example/countersign/countersign/core/Lines", "lineEnd", "([BII)I"⟩ : MethodName) (head1 (Jvm.Cond.code (⟨"com/example/countersign/countersign/core/Lines", "lineEnd", "([BII)I"⟩ : MethodName) prog_7_method_2_code 4 (some .int) :: ws) ({ frames := 0, cells := 0, slots := 0, locals := 0 } : Room)) (fun a U => a = #[(.ref a1), (.int p2), (.int p3)] ∧ Z.Warmed39 U.vm ∧ U.heap = h0) (fun _ _ _ _ _ => True) (fun _ U o U' => ∃ v L, o = .returned v ∧ Qv (.int (Int32.ofNat (own_le f b (n - b)))) h0 n0 v U'.heap L ∧ FrameEnd U o U' L ({ frames := 0, cells := 0, slots := 0, locals := 0 } : Room).cells ({ frames := 0, cells := 0, slots := 0, locals := 0 } : Room).slots) := by
  refine MetFree.of_bodySF (plainFor_of_name pn_5) hisR ?_
  intro p e s m args below meth c s₁ Bd hml0 hP hK
  obtain ⟨rfl, hZ, hh⟩ := hP
  have hx := Bd.exec
  have hby := Bd.bytes
  have hml : c.maxLocals = 4 := hml0
  have hown : s.vm.findClass "com/example/countersign/countersign/core/Lines" = some m.cls := findClass_of_methodNamed Bd.named
  have hnm := (name_of_methodNamed Bd.named Bd.method).1
  have X0 : Stand p l e ({ frames := 0, cells := 0, slots := 0, locals := 0 } : Room) s m #[(.ref a1), (.int p2), (.int p3)] below meth c s₁ [] 0 0 := Stand.of_body Bd
  have e0 : s₁.heap = h0 := by rw [← hh, Bd.state]; rfl
  have N0 := Fr.nil n0
  have pre0 : ∀ t, Steps p.tables e below (s₁.setTop (mkF m 0 #[.val (.ref a1), .val (.int p2), .val (.int p3), .unset] [])) t → Steps p.tables e below (s₁.setTop (entryFrame m #[(.ref a1), (.int p2), (.int p3)] 4)) t := fun t k => castTop (ef_5 m a1 p2 p3) k
  obtain ⟨fs, hr, hrun, hended, hW, hsame⟩ := X0.leave (v := some (.int (Int32.ofNat (own_le f b (n - b))))) (fun h => by rw [Bd.returns] at h; cases h)
  refine ⟨_, _, pre0 _ ?_, hrun, hended, _, _, rfl, ?_, ⟨_, rfl⟩, hW, hsame.mono (by decide) (by decide)⟩
  · show Steps p.tables e below (s₁.setTop (mkF m 0 #[.val (.ref a1), .val (.int p2), .val (.int p3), .unset] [])) _
    refine XS.iloadN X0.here hx rfl (hb hby d5_0) rfl ?_
    show Steps p.tables e below (s₁.setTop (mkF m 1 #[.val (.ref a1), .val (.int p2), .val (.int p3), .unset] [(.int p2)])) _
    refine XS.istoreN X0.here hx rfl (hb hby d5_1) rfl (l' := #[.val (.ref a1), .val (.int p2), .val (.int p3), .val (.int p2)]) rfl ?_
    show Steps p.tables e below (s₁.setTop (mkF m 2 #[.val (.ref a1), .val (.int p2), .val (.int p3), .val (.int p2)] [])) _
    refine own_loop' f b n hn hbn hp2 hp3 X0 hx hZ hby e0 Ar hsz hat _ ?_
    show Steps p.tables e below (s₁.setTop (mkF m 21 #[.val (.ref a1), .val (.int p2), .val (.int p3), .val (.int (Int32.ofNat (own_le f b (n - b))))] [])) _
    refine XS.iloadN X0.here hx rfl (hb hby d5_21) rfl ?_
    show Steps p.tables e below (s₁.setTop (mkF m 22 #[.val (.ref a1), .val (.int p2), .val (.int p3), .val (.int (Int32.ofNat (own_le f b (n - b))))] [(.int (Int32.ofNat (own_le f b (n - b))))])) _
    exact retI X0 hx Bd.returns (hb hby d5_22) hr
  · show Qv (.int (Int32.ofNat (own_le f b (n - b)))) h0 n0 _ s₁.heap _
    rw [e0]
    exact ⟨rfl, N0, rfl⟩
def own_m (p : Int32) : Int32 := ((p &&& (2147483647 : Int32)) - ((p &&& (2147483647 : Int32)) / (7 : Int32)) * (7 : Int32))
theorem own_seven (p : Int32) : ∃ a : Nat, a < 7 ∧ own_m p = Int32.ofNat a := by
  have h := Jvm.Kit.i32_mask p 2147483647 (k := 31) (by decide) (by decide)
  have e : (own_m p).toInt = (p.toInt % 2 ^ 31) % 7 := by
    unfold own_m
    rw [Jvm.LawKit.rem_toInt, h, show (7 : Int32).toInt = 7 from rfl]
    exact Int.tmod_eq_emod_of_nonneg (by omega)
  refine ⟨(own_m p).toInt.toNat, by omega, ?_⟩
  apply Int32.toInt_inj.mp
  rw [Int32.toInt_ofNat_of_lt (by omega)]
  omega
def own_leb (f : Nat → Bool) : Nat → Nat → Nat
  | i, 0 => i
  | i, k + 1 => if f i = true then i else own_leb f (i + 1) k
def own_pkb (w : Bool) (p s l cur : Int32) : Int32 := if p < s then cur else if p < l then (if w = true then p else cur) else cur
theorem own_le_b (f : Nat → Int32) : ∀ k i, own_le f i k = own_leb (fun j => decide (f j = (10 : Int32))) i k := by
  intro k
  induction k with
  | zero => intro i; rfl
  | succ k ih => intro i; rw [own_le, own_leb, ih]; by_cases q : f i = (10 : Int32) <;> simp [q]
theorem own_pk_b (w p s l cur : Int32) : own_pk w p s l cur = own_pkb (decide (w = (10 : Int32))) p s l cur := by
  unfold own_pk own_pkb
  by_cases q : w = (10 : Int32) <;> simp [q]
theorem own_fin : ∀ (a b : Fin 7) (b0 b1 b2 b3 b4 b5 : Bool), Int32.ofNat (own_leb (fun j => [b0, b1, b2, b3, b4, b5].getD j false) (min a.val b.val) (max a.val b.val - min a.val b.val)) = (own_pkb b0 (0 : Int32) (Int32.ofNat (min a.val b.val)) (Int32.ofNat (max a.val b.val)) (own_pkb b1 (1 : Int32) (Int32.ofNat (min a.val b.val)) (Int32.ofNat (max a.val b.val)) (own_pkb b2 (2 : Int32) (Int32.ofNat (min a.val b.val)) (Int32.ofNat (max a.val b.val)) (own_pkb b3 (3 : Int32) (Int32.ofNat (min a.val b.val)) (Int32.ofNat (max a.val b.val)) (own_pkb b4 (4 : Int32) (Int32.ofNat (min a.val b.val)) (Int32.ofNat (max a.val b.val)) (own_pkb b5 (5 : Int32) (Int32.ofNat (min a.val b.val)) (Int32.ofNat (max a.val b.val)) (Int32.ofNat (max a.val b.val)))))))) := by decide +kernel
theorem own_min2 : ∀ a b : Fin 7, own_r2 (Int32.ofNat a.val) (Int32.ofNat b.val) = Int32.ofNat (min a.val b.val) := by decide +kernel
theorem own_max2 : ∀ a b : Fin 7, own_r3 (Int32.ofNat a.val) (Int32.ofNat b.val) = Int32.ofNat (max a.val b.val) := by decide +kernel
def own_f (x0 x1 x2 x3 x4 x5 : Int32) (j : Nat) : Int32 := [x0, x1, x2, x3, x4, x5].getD j (0 : Int32)
theorem own_law (a b : Nat) (ha : a < 7) (hb : b < 7) (x0 x1 x2 x3 x4 x5 : Int32) : Int32.ofNat (own_le (own_f x0 x1 x2 x3 x4 x5) (min a b) (max a b - min a b)) = (own_pk x0 (0 : Int32) (Int32.ofNat (min a b)) (Int32.ofNat (max a b)) (own_pk x1 (1 : Int32) (Int32.ofNat (min a b)) (Int32.ofNat (max a b)) (own_pk x2 (2 : Int32) (Int32.ofNat (min a b)) (Int32.ofNat (max a b)) (own_pk x3 (3 : Int32) (Int32.ofNat (min a b)) (Int32.ofNat (max a b)) (own_pk x4 (4 : Int32) (Int32.ofNat (min a b)) (Int32.ofNat (max a b)) (own_pk x5 (5 : Int32) (Int32.ofNat (min a b)) (Int32.ofNat (max a b)) (Int32.ofNat (max a b)))))))) := by
  have h := own_fin ⟨a, ha⟩ ⟨b, hb⟩ (decide (x0 = (10 : Int32))) (decide (x1 = (10 : Int32))) (decide (x2 = (10 : Int32))) (decide (x3 = (10 : Int32))) (decide (x4 = (10 : Int32))) (decide (x5 = (10 : Int32)))
  have e : (fun j => decide (own_f x0 x1 x2 x3 x4 x5 j = (10 : Int32))) = (fun j => [(decide (x0 = (10 : Int32))), (decide (x1 = (10 : Int32))), (decide (x2 = (10 : Int32))), (decide (x3 = (10 : Int32))), (decide (x4 = (10 : Int32))), (decide (x5 = (10 : Int32)))].getD j false) := by
    funext j
    match j with
    | 0 => rfl
    | 1 => rfl
    | 2 => rfl
    | 3 => rfl
    | 4 => rfl
    | 5 => rfl
    | n + 6 => rfl
  rw [own_le_b, e]
  simp only [own_pk_b]
  exact h
def own_x0 (p1 p2 p3 : Int32) : Int32 := nar .byte (own_draw p3 (0 : Int32) p1)
def own_x1 (p1 p2 p3 : Int32) : Int32 := nar .byte (own_draw p3 (1 : Int32) (p1 >>> ((8 : Int32) &&& 31)))
def own_x2 (p1 p2 p3 : Int32) : Int32 := nar .byte (own_draw p3 (2 : Int32) (p1 >>> ((16 : Int32) &&& 31)))
def own_x3 (p1 p2 p3 : Int32) : Int32 := nar .byte (own_draw p3 (3 : Int32) ((p1.toUInt32 >>> ((24 : Int32) &&& 31).toUInt32).toInt32))
def own_x4 (p1 p2 p3 : Int32) : Int32 := nar .byte (own_draw p3 (4 : Int32) p2)
def own_x5 (p1 p2 p3 : Int32) : Int32 := nar .byte (own_draw p3 (5 : Int32) (p2 >>> ((8 : Int32) &&& 31)))
theorem pn_0 : plainName "com/example/countersign/countersign/core/LinesLineEndPinLaw" = true := by first | (simp [plainName, overriddenIn]; done) | decide +kernel
theorem pdx_0 : parseMethodDescriptor "(III)B" = some ⟨[.int, .int, .int], some .byte⟩ := by decide +kernel
theorem pdx_1 : parseMethodDescriptor "(II)I" = some ⟨[.int, .int], some .int⟩ := by decide +kernel
theorem pdx_2 : parseMethodDescriptor "([BIIII)I" = some ⟨[(.array .byte), .int, .int, .int, .int], some .int⟩ := by decide +kernel
theorem pdx_3 : parseMethodDescriptor "([BII)I" = some ⟨[(.array .byte), .int, .int], some .int⟩ := by decide +kernel
theorem ef_0 (m : MethodId) (x0 : Int32) (x1 : Int32) (x2 : Int32) (x3 : Int32) (x4 : Int32) : entryFrame m #[(.int x0), (.int x1), (.int x2), (.int x3), (.int x4)] maxLocals = mkF m 0 #[.val (.int x0), .val (.int x1), .val (.int x2), .val (.int x3), .val (.int x4), .unset, .unset, .unset, .unset, .unset, .unset] [] := by first | (simp [entryFrame, mkF, argsToLocals, Value.category, maxLocals]; done) | rfl
def Q0 (Z : State) (p1 : Int32) (p2 : Int32) (p3 : Int32) (p4 : Int32) (p5 : Int32) (h0 : Heap) (n0 : Nat) (v : Option Value) (h : Heap) (L : List Loc) : Prop := v = some (.int (1 : Int32)) ∧ Fr n0 L
set_option maxRecDepth 65536 in
set_option maxHeartbeats 40000000 in
theorem rm0 (l : Launch) (Z : State) (a0 : Array Value) (hw : ∀ d ∈ tables_1, d.before a0 Z = true) (ws : List Jvm.Cond) (p1 : Int32) (p2 : Int32) (p3 : Int32) (p4 : Int32) (p5 : Int32) (h0 : Heap) (n0 : Nat) (Z0 : n0 ≤ h0.size) :
    MetFree l x (head1 (Jvm.Cond.code x code maxLocals ret :: ws) room_1) (fun a U => a = #[(.int p1), (.int p2), (.int p3), (.int p4), (.int p5)] ∧ Z.Warmed39 U.vm ∧ U.heap = h0) (fun _ _ _ _ _ => True) (fun _ U o U' => ∃ v L, o = .returned v ∧ Q0 Z p1 p2 p3 p4 p5 h0 n0 v U'.heap L ∧ FrameEnd U o U' L room_1.cells room_1.slots) := by
  refine MetFree.of_bodySF (plainFor_of_name pn_0) hisR ?_
  intro p e s m args below meth c s₁ Bd hml0 hP hK
  obtain ⟨rfl, hZ, hh⟩ := hP
  have hx := Bd.exec
  have hby := Bd.bytes
  have hml : c.maxLocals = 11 := hml0
  have hown : s.vm.findClass "com/example/countersign/countersign/core/LinesLineEndPinLaw" = some m.cls := findClass_of_methodNamed Bd.named
  have hnm := (name_of_methodNamed Bd.named Bd.method).1
  have X0 : Stand p l e room_1 s m #[(.int p1), (.int p2), (.int p3), (.int p4), (.int p5)] below meth c s₁ [] 0 0 := Stand.of_body Bd
  have e0 : s₁.heap = h0 := by rw [← hh, Bd.state]; rfl
  have N0 := Fr.nil n0
  have pre0 : ∀ t, Steps p.tables e below (s₁.setTop (mkF m 0 #[.val (.int p1), .val (.int p2), .val (.int p3), .val (.int p4), .val (.int p5), .unset, .unset, .unset, .unset, .unset, .unset] [])) t → Steps p.tables e below (s₁.setTop (entryFrame m #[(.int p1), (.int p2), (.int p3), (.int p4), (.int p5)] maxLocals)) t := fun t k => castTop (ef_0 m p1 p2 p3 p4 p5) k
  obtain ⟨T6, h6, k6, X6, e6, E6, A6, st6⟩ := newP X0 hx hZ (hw _ (List.mem_of_getElem? (i := 0) rfl)) e0 (g := (mkF m 2 #[.val (.int p1), .val (.int p2), .val (.int p3), .val (.int p4), .val (.int p5), .unset, .unset, .unset, .unset, .unset, .unset] [(.int (6 : Int32))])) rfl (hb hby at_2) rfl (by decide) (cap := 6) (by decide) (by decide) (by decide) (by decide)
  obtain ⟨b6, g6⟩ : ∃ z, z = h0.size := ⟨_, rfl⟩
  rw [← g6] at A6 st6
  have V_b6 : Arv Z h6 b6 k6 .byte (6 : Int32) [(.int (0 : Int32)), (.int (0 : Int32)), (.int (0 : Int32)), (.int (0 : Int32)), (.int (0 : Int32)), (.int (0 : Int32))] (.int (0 : Int32)) := (Arv.new A6 (by decide)).pad (pad_rep [] (.int (0 : Int32)) 6)
  have g_b6 : n0 ≤ b6 := Nat.le_trans Z0 (Nat.le_of_eq g6.symm)
  have sz_b6 : h0.size ≤ b6 := (Nat.le_trans (Keep.refl h0 []).1 (Nat.le_of_eq g6.symm))
  have K6 : Keep h0 h6 [] := (Keep.refl h0 []).ext E6
  obtain ⟨_, _, ⟨T7, L7, k7, n7⟩, -, X7, ⟨Lc7, hQ7, l7, y7, z7⟩, st7⟩ := Jvm.LawKit.callS X6 hx (y := (⟨"com/example/countersign/countersign/core/LinesLineEndPinLaw", "draw", "(III)B"⟩ : MethodName)) hown (mvT hZ (hw _ (List.mem_of_getElem? (i := 1) rfl))) (mvT hZ (hw _ (List.mem_of_getElem? (i := 2) rfl))) (mvT hZ (hw _ (List.mem_of_getElem? (i := 3) rfl))) (mvT hZ (hw _ (List.mem_of_getElem? (i := 4) rfl))) (by decide) (backOf (W := 2) (rm1 l Z a0 hw [] p3 (0 : Int32) p1 h6 n0 (Nat.le_trans Z0 K6.1)) hZ (hw _ (List.mem_of_getElem? (i := 4) rfl)) (hw _ (List.mem_of_getElem? (i := 3) rfl)) (by decide) (by decide)) (g := (mkF m 12 #[.val (.int p1), .val (.int p2), .val (.int p3), .val (.int p4), .val (.int p5), .val (.ref b6), .unset, .unset, .unset, .unset, .unset] [(.int p1), (.int (0 : Int32)), (.int p3), (.int (0 : Int32)), (.ref b6)])) rfl (by rw [hml]; rfl) (argsL := [(.int p3), (.int (0 : Int32)), (.int p1)]) (rest := [(.int (0 : Int32)), (.ref b6)]) (lenOf pdx_0 rfl) rfl (by show 2 * 0 + _ ≤ _; exact Nat.le_of_eq rfl) (hb hby at_12) (fun _ _ => ⟨rfl, e6, (by decide : 1 + 0 ≤ _), (by decide : 6 + 0 ≤ _)⟩)
  dsimp only [Pt.U, Pt.locs, Pt.cells, Pt.slots] at X7 l7 y7 z7 st7 hQ7
  subst l7 y7 z7
  obtain ⟨rfl, N7q, g7⟩ := hQ7
  have N7 := Fr.app N0 N7q
  have K7 : Keep h0 T7.heap [] := by rw [g7]; exact K6
  have V7 := V_b6
  rw [← g7] at V7
  obtain ⟨cl_b6_15, Ar_b6, q_b6, S_b6, N_b6, H_b6, G_b6⟩ := V7
  have hin15 : ¬ ((0 : Int32) < 0 ∨ cl_b6_15.slots.size ≤ ((0 : Int32)).toNatClampNeg) := inb_of S_b6 ⟨by decide, by decide⟩
  obtain ⟨T8, h8, X8, e8, W8, st8⟩ := stB X7 hx hZ rfl Ar_b6 (j := (0 : Int32)) hin15 (g := (mkF m 15 #[.val (.int p1), .val (.int p2), .val (.int p3), .val (.int p4), .val (.int p5), .val (.ref b6), .unset, .unset, .unset, .unset, .unset] [(.int (own_draw p3 (0 : Int32) p1)), (.int (0 : Int32)), (.ref b6)])) rfl rfl (hb hby at_15)
  have V_b6_8 := Arv.set Ar_b6 q_b6 S_b6 N_b6 H_b6 G_b6 (fits_nar_byte _) W8 0 rfl (Nat.le_of_ble_eq_true rfl)
  have K8 : Keep h0 h8 [] := K7.wr W8 (Or.inr sz_b6)
  have N8 := Fr.snoc X8 N7 g_b6
  obtain ⟨_, _, ⟨T9, L9, k9, n9⟩, -, X9, ⟨Lc9, hQ9, l9, y9, z9⟩, st9⟩ := Jvm.LawKit.callS X8 hx (y := (⟨"com/example/countersign/countersign/core/LinesLineEndPinLaw", "draw", "(III)B"⟩ : MethodName)) hown (mvT hZ (hw _ (List.mem_of_getElem? (i := 1) rfl))) (mvT hZ (hw _ (List.mem_of_getElem? (i := 2) rfl))) (mvT hZ (hw _ (List.mem_of_getElem? (i := 3) rfl))) (mvT hZ (hw _ (List.mem_of_getElem? (i := 4) rfl))) (by decide) (backOf (W := 2) (rm1 l Z a0 hw [] p3 (1 : Int32) (p1 >>> ((8 : Int32) &&& 31)) h8 n0 (Nat.le_trans Z0 K8.1)) hZ (hw _ (List.mem_of_getElem? (i := 4) rfl)) (hw _ (List.mem_of_getElem? (i := 3) rfl)) (by decide) (by decide)) (g := (mkF m 25 #[.val (.int p1), .val (.int p2), .val (.int p3), .val (.int p4), .val (.int p5), .val (.ref b6), .unset, .unset, .unset, .unset, .unset] [(.int (p1 >>> ((8 : Int32) &&& 31))), (.int (1 : Int32)), (.int p3), (.int (1 : Int32)), (.ref b6)])) rfl (by rw [hml]; rfl) (argsL := [(.int p3), (.int (1 : Int32)), (.int (p1 >>> ((8 : Int32) &&& 31)))]) (rest := [(.int (1 : Int32)), (.ref b6)]) (lenOf pdx_0 rfl) rfl (by show 2 * 0 + _ ≤ _; exact Nat.le_of_eq rfl) (hb hby at_25) (fun _ _ => ⟨rfl, e8, (by decide : 1 + 0 ≤ _), (by decide : 6 + 0 ≤ _)⟩)
  dsimp only [Pt.U, Pt.locs, Pt.cells, Pt.slots] at X9 l9 y9 z9 st9 hQ9
  subst l9 y9 z9
  obtain ⟨rfl, N9q, g9⟩ := hQ9
  have N9 := Fr.app N8 N9q
  have K9 : Keep h0 T9.heap [] := by rw [g9]; exact K8
  have V9 := V_b6_8
  rw [← g9] at V9
  obtain ⟨cl_b6_28, Ar_b6, q_b6, S_b6, N_b6, H_b6, G_b6⟩ := V9
  have hin28 : ¬ ((1 : Int32) < 0 ∨ cl_b6_28.slots.size ≤ ((1 : Int32)).toNatClampNeg) := inb_of S_b6 ⟨by decide, by decide⟩
  obtain ⟨T10, h10, X10, e10, W10, st10⟩ := stB X9 hx hZ rfl Ar_b6 (j := (1 : Int32)) hin28 (g := (mkF m 28 #[.val (.int p1), .val (.int p2), .val (.int p3), .val (.int p4), .val (.int p5), .val (.ref b6), .unset, .unset, .unset, .unset, .unset] [(.int (own_draw p3 (1 : Int32) (p1 >>> ((8 : Int32) &&& 31)))), (.int (1 : Int32)), (.ref b6)])) rfl rfl (hb hby at_28)
  have V_b6_10 := Arv.set Ar_b6 q_b6 S_b6 N_b6 H_b6 G_b6 (fits_nar_byte _) W10 1 rfl (Nat.le_of_ble_eq_true rfl)
  have K10 : Keep h0 h10 [] := K9.wr W10 (Or.inr sz_b6)
  have N10 := Fr.snoc X10 N9 g_b6
  obtain ⟨_, _, ⟨T11, L11, k11, n11⟩, -, X11, ⟨Lc11, hQ11, l11, y11, z11⟩, st11⟩ := Jvm.LawKit.callS X10 hx (y := (⟨"com/example/countersign/countersign/core/LinesLineEndPinLaw", "draw", "(III)B"⟩ : MethodName)) hown (mvT hZ (hw _ (List.mem_of_getElem? (i := 1) rfl))) (mvT hZ (hw _ (List.mem_of_getElem? (i := 2) rfl))) (mvT hZ (hw _ (List.mem_of_getElem? (i := 3) rfl))) (mvT hZ (hw _ (List.mem_of_getElem? (i := 4) rfl))) (by decide) (backOf (W := 2) (rm1 l Z a0 hw [] p3 (2 : Int32) (p1 >>> ((16 : Int32) &&& 31)) h10 n0 (Nat.le_trans Z0 K10.1)) hZ (hw _ (List.mem_of_getElem? (i := 4) rfl)) (hw _ (List.mem_of_getElem? (i := 3) rfl)) (by decide) (by decide)) (g := (mkF m 38 #[.val (.int p1), .val (.int p2), .val (.int p3), .val (.int p4), .val (.int p5), .val (.ref b6), .unset, .unset, .unset, .unset, .unset] [(.int (p1 >>> ((16 : Int32) &&& 31))), (.int (2 : Int32)), (.int p3), (.int (2 : Int32)), (.ref b6)])) rfl (by rw [hml]; rfl) (argsL := [(.int p3), (.int (2 : Int32)), (.int (p1 >>> ((16 : Int32) &&& 31)))]) (rest := [(.int (2 : Int32)), (.ref b6)]) (lenOf pdx_0 rfl) rfl (by show 2 * 0 + _ ≤ _; exact Nat.le_of_eq rfl) (hb hby at_38) (fun _ _ => ⟨rfl, e10, (by decide : 1 + 0 ≤ _), (by decide : 6 + 0 ≤ _)⟩)
  dsimp only [Pt.U, Pt.locs, Pt.cells, Pt.slots] at X11 l11 y11 z11 st11 hQ11
  subst l11 y11 z11
  obtain ⟨rfl, N11q, g11⟩ := hQ11
  have N11 := Fr.app N10 N11q
  have K11 : Keep h0 T11.heap [] := by rw [g11]; exact K10
  have V11 := V_b6_10
  rw [← g11] at V11
  obtain ⟨cl_b6_41, Ar_b6, q_b6, S_b6, N_b6, H_b6, G_b6⟩ := V11
  have hin41 : ¬ ((2 : Int32) < 0 ∨ cl_b6_41.slots.size ≤ ((2 : Int32)).toNatClampNeg) := inb_of S_b6 ⟨by decide, by decide⟩
  obtain ⟨T12, h12, X12, e12, W12, st12⟩ := stB X11 hx hZ rfl Ar_b6 (j := (2 : Int32)) hin41 (g := (mkF m 41 #[.val (.int p1), .val (.int p2), .val (.int p3), .val (.int p4), .val (.int p5), .val (.ref b6), .unset, .unset, .unset, .unset, .unset] [(.int (own_draw p3 (2 : Int32) (p1 >>> ((16 : Int32) &&& 31)))), (.int (2 : Int32)), (.ref b6)])) rfl rfl (hb hby at_41)
  have V_b6_12 := Arv.set Ar_b6 q_b6 S_b6 N_b6 H_b6 G_b6 (fits_nar_byte _) W12 2 rfl (Nat.le_of_ble_eq_true rfl)
  have K12 : Keep h0 h12 [] := K11.wr W12 (Or.inr sz_b6)
  have N12 := Fr.snoc X12 N11 g_b6
  obtain ⟨_, _, ⟨T13, L13, k13, n13⟩, -, X13, ⟨Lc13, hQ13, l13, y13, z13⟩, st13⟩ := Jvm.LawKit.callS X12 hx (y := (⟨"com/example/countersign/countersign/core/LinesLineEndPinLaw", "draw", "(III)B"⟩ : MethodName)) hown (mvT hZ (hw _ (List.mem_of_getElem? (i := 1) rfl))) (mvT hZ (hw _ (List.mem_of_getElem? (i := 2) rfl))) (mvT hZ (hw _ (List.mem_of_getElem? (i := 3) rfl))) (mvT hZ (hw _ (List.mem_of_getElem? (i := 4) rfl))) (by decide) (backOf (W := 2) (rm1 l Z a0 hw [] p3 (3 : Int32) ((p1.toUInt32 >>> ((24 : Int32) &&& 31).toUInt32).toInt32) h12 n0 (Nat.le_trans Z0 K12.1)) hZ (hw _ (List.mem_of_getElem? (i := 4) rfl)) (hw _ (List.mem_of_getElem? (i := 3) rfl)) (by decide) (by decide)) (g := (mkF m 51 #[.val (.int p1), .val (.int p2), .val (.int p3), .val (.int p4), .val (.int p5), .val (.ref b6), .unset, .unset, .unset, .unset, .unset] [(.int ((p1.toUInt32 >>> ((24 : Int32) &&& 31).toUInt32).toInt32)), (.int (3 : Int32)), (.int p3), (.int (3 : Int32)), (.ref b6)])) rfl (by rw [hml]; rfl) (argsL := [(.int p3), (.int (3 : Int32)), (.int ((p1.toUInt32 >>> ((24 : Int32) &&& 31).toUInt32).toInt32))]) (rest := [(.int (3 : Int32)), (.ref b6)]) (lenOf pdx_0 rfl) rfl (by show 2 * 0 + _ ≤ _; exact Nat.le_of_eq rfl) (hb hby at_51) (fun _ _ => ⟨rfl, e12, (by decide : 1 + 0 ≤ _), (by decide : 6 + 0 ≤ _)⟩)
  dsimp only [Pt.U, Pt.locs, Pt.cells, Pt.slots] at X13 l13 y13 z13 st13 hQ13
  subst l13 y13 z13
  obtain ⟨rfl, N13q, g13⟩ := hQ13
  have N13 := Fr.app N12 N13q
  have K13 : Keep h0 T13.heap [] := by rw [g13]; exact K12
  have V13 := V_b6_12
  rw [← g13] at V13
  obtain ⟨cl_b6_54, Ar_b6, q_b6, S_b6, N_b6, H_b6, G_b6⟩ := V13
  have hin54 : ¬ ((3 : Int32) < 0 ∨ cl_b6_54.slots.size ≤ ((3 : Int32)).toNatClampNeg) := inb_of S_b6 ⟨by decide, by decide⟩
  obtain ⟨T14, h14, X14, e14, W14, st14⟩ := stB X13 hx hZ rfl Ar_b6 (j := (3 : Int32)) hin54 (g := (mkF m 54 #[.val (.int p1), .val (.int p2), .val (.int p3), .val (.int p4), .val (.int p5), .val (.ref b6), .unset, .unset, .unset, .unset, .unset] [(.int (own_draw p3 (3 : Int32) ((p1.toUInt32 >>> ((24 : Int32) &&& 31).toUInt32).toInt32))), (.int (3 : Int32)), (.ref b6)])) rfl rfl (hb hby at_54)
  have V_b6_14 := Arv.set Ar_b6 q_b6 S_b6 N_b6 H_b6 G_b6 (fits_nar_byte _) W14 3 rfl (Nat.le_of_ble_eq_true rfl)
  have K14 : Keep h0 h14 [] := K13.wr W14 (Or.inr sz_b6)
  have N14 := Fr.snoc X14 N13 g_b6
  obtain ⟨_, _, ⟨T15, L15, k15, n15⟩, -, X15, ⟨Lc15, hQ15, l15, y15, z15⟩, st15⟩ := Jvm.LawKit.callS X14 hx (y := (⟨"com/example/countersign/countersign/core/LinesLineEndPinLaw", "draw", "(III)B"⟩ : MethodName)) hown (mvT hZ (hw _ (List.mem_of_getElem? (i := 1) rfl))) (mvT hZ (hw _ (List.mem_of_getElem? (i := 2) rfl))) (mvT hZ (hw _ (List.mem_of_getElem? (i := 3) rfl))) (mvT hZ (hw _ (List.mem_of_getElem? (i := 4) rfl))) (by decide) (backOf (W := 2) (rm1 l Z a0 hw [] p3 (4 : Int32) p2 h14 n0 (Nat.le_trans Z0 K14.1)) hZ (hw _ (List.mem_of_getElem? (i := 4) rfl)) (hw _ (List.mem_of_getElem? (i := 3) rfl)) (by decide) (by decide)) (g := (mkF m 61 #[.val (.int p1), .val (.int p2), .val (.int p3), .val (.int p4), .val (.int p5), .val (.ref b6), .unset, .unset, .unset, .unset, .unset] [(.int p2), (.int (4 : Int32)), (.int p3), (.int (4 : Int32)), (.ref b6)])) rfl (by rw [hml]; rfl) (argsL := [(.int p3), (.int (4 : Int32)), (.int p2)]) (rest := [(.int (4 : Int32)), (.ref b6)]) (lenOf pdx_0 rfl) rfl (by show 2 * 0 + _ ≤ _; exact Nat.le_of_eq rfl) (hb hby at_61) (fun _ _ => ⟨rfl, e14, (by decide : 1 + 0 ≤ _), (by decide : 6 + 0 ≤ _)⟩)
  dsimp only [Pt.U, Pt.locs, Pt.cells, Pt.slots] at X15 l15 y15 z15 st15 hQ15
  subst l15 y15 z15
  obtain ⟨rfl, N15q, g15⟩ := hQ15
  have N15 := Fr.app N14 N15q
  have K15 : Keep h0 T15.heap [] := by rw [g15]; exact K14
  have V15 := V_b6_14
  rw [← g15] at V15
  obtain ⟨cl_b6_64, Ar_b6, q_b6, S_b6, N_b6, H_b6, G_b6⟩ := V15
  have hin64 : ¬ ((4 : Int32) < 0 ∨ cl_b6_64.slots.size ≤ ((4 : Int32)).toNatClampNeg) := inb_of S_b6 ⟨by decide, by decide⟩
  obtain ⟨T16, h16, X16, e16, W16, st16⟩ := stB X15 hx hZ rfl Ar_b6 (j := (4 : Int32)) hin64 (g := (mkF m 64 #[.val (.int p1), .val (.int p2), .val (.int p3), .val (.int p4), .val (.int p5), .val (.ref b6), .unset, .unset, .unset, .unset, .unset] [(.int (own_draw p3 (4 : Int32) p2)), (.int (4 : Int32)), (.ref b6)])) rfl rfl (hb hby at_64)
  have V_b6_16 := Arv.set Ar_b6 q_b6 S_b6 N_b6 H_b6 G_b6 (fits_nar_byte _) W16 4 rfl (Nat.le_of_ble_eq_true rfl)
  have K16 : Keep h0 h16 [] := K15.wr W16 (Or.inr sz_b6)
  have N16 := Fr.snoc X16 N15 g_b6
  obtain ⟨_, _, ⟨T17, L17, k17, n17⟩, -, X17, ⟨Lc17, hQ17, l17, y17, z17⟩, st17⟩ := Jvm.LawKit.callS X16 hx (y := (⟨"com/example/countersign/countersign/core/LinesLineEndPinLaw", "draw", "(III)B"⟩ : MethodName)) hown (mvT hZ (hw _ (List.mem_of_getElem? (i := 1) rfl))) (mvT hZ (hw _ (List.mem_of_getElem? (i := 2) rfl))) (mvT hZ (hw _ (List.mem_of_getElem? (i := 3) rfl))) (mvT hZ (hw _ (List.mem_of_getElem? (i := 4) rfl))) (by decide) (backOf (W := 2) (rm1 l Z a0 hw [] p3 (5 : Int32) (p2 >>> ((8 : Int32) &&& 31)) h16 n0 (Nat.le_trans Z0 K16.1)) hZ (hw _ (List.mem_of_getElem? (i := 4) rfl)) (hw _ (List.mem_of_getElem? (i := 3) rfl)) (by decide) (by decide)) (g := (mkF m 74 #[.val (.int p1), .val (.int p2), .val (.int p3), .val (.int p4), .val (.int p5), .val (.ref b6), .unset, .unset, .unset, .unset, .unset] [(.int (p2 >>> ((8 : Int32) &&& 31))), (.int (5 : Int32)), (.int p3), (.int (5 : Int32)), (.ref b6)])) rfl (by rw [hml]; rfl) (argsL := [(.int p3), (.int (5 : Int32)), (.int (p2 >>> ((8 : Int32) &&& 31)))]) (rest := [(.int (5 : Int32)), (.ref b6)]) (lenOf pdx_0 rfl) rfl (by show 2 * 0 + _ ≤ _; exact Nat.le_of_eq rfl) (hb hby at_74) (fun _ _ => ⟨rfl, e16, (by decide : 1 + 0 ≤ _), (by decide : 6 + 0 ≤ _)⟩)
  dsimp only [Pt.U, Pt.locs, Pt.cells, Pt.slots] at X17 l17 y17 z17 st17 hQ17
  subst l17 y17 z17
  obtain ⟨rfl, N17q, g17⟩ := hQ17
  have N17 := Fr.app N16 N17q
  have K17 : Keep h0 T17.heap [] := by rw [g17]; exact K16
  have V17 := V_b6_16
  rw [← g17] at V17
  obtain ⟨cl_b6_77, Ar_b6, q_b6, S_b6, N_b6, H_b6, G_b6⟩ := V17
  have hin77 : ¬ ((5 : Int32) < 0 ∨ cl_b6_77.slots.size ≤ ((5 : Int32)).toNatClampNeg) := inb_of S_b6 ⟨by decide, by decide⟩
  obtain ⟨T18, h18, X18, e18, W18, st18⟩ := stB X17 hx hZ rfl Ar_b6 (j := (5 : Int32)) hin77 (g := (mkF m 77 #[.val (.int p1), .val (.int p2), .val (.int p3), .val (.int p4), .val (.int p5), .val (.ref b6), .unset, .unset, .unset, .unset, .unset] [(.int (own_draw p3 (5 : Int32) (p2 >>> ((8 : Int32) &&& 31)))), (.int (5 : Int32)), (.ref b6)])) rfl rfl (hb hby at_77)
  have V_b6_18 := Arv.set Ar_b6 q_b6 S_b6 N_b6 H_b6 G_b6 (fits_nar_byte _) W18 5 rfl (Nat.le_of_ble_eq_true rfl)
  have K18 : Keep h0 h18 [] := K17.wr W18 (Or.inr sz_b6)
  have N18 := Fr.snoc X18 N17 g_b6
  obtain ⟨_, _, ⟨T19, L19, k19, n19⟩, -, X19, ⟨Lc19, hQ19, l19, y19, z19⟩, st19⟩ := Jvm.LawKit.callS X18 hx (y := (⟨"java/lang/Math", "min", "(II)I"⟩ : MethodName)) hown (mvT hZ (hw _ (List.mem_of_getElem? (i := 6) rfl))) (mvT hZ (hw _ (List.mem_of_getElem? (i := 7) rfl))) (mvT hZ (hw _ (List.mem_of_getElem? (i := 8) rfl))) (mvT hZ (hw _ (List.mem_of_getElem? (i := 9) rfl))) (by decide) (backOf (W := 0) (rm2 l Z a0 hw [] (own_m p4) (own_m p5) h18 n0 (Nat.le_trans Z0 K18.1)) hZ (hw _ (List.mem_of_getElem? (i := 9) rfl)) (hw _ (List.mem_of_getElem? (i := 8) rfl)) (by decide) (by decide)) (g := (mkF m 101 #[.val (.int p1), .val (.int p2), .val (.int p3), .val (.int p4), .val (.int p5), .val (.ref b6), .val (.int (own_m p4)), .val (.int (own_m p5)), .unset, .unset, .unset] [(.int (own_m p5)), (.int (own_m p4))])) rfl (by rw [hml]; rfl) (argsL := [(.int (own_m p4)), (.int (own_m p5))]) (rest := []) (lenOf pdx_1 rfl) rfl (by show 2 * 0 + _ ≤ _; exact Nat.le_of_eq rfl) (hb hby at_101) (fun _ _ => ⟨rfl, e18, (by decide : 1 + 0 ≤ _), (by decide : 6 + 0 ≤ _)⟩)
  dsimp only [Pt.U, Pt.locs, Pt.cells, Pt.slots] at X19 l19 y19 z19 st19 hQ19
  subst l19 y19 z19
  obtain ⟨rfl, N19q, hh19⟩ := hQ19
  have N19 := Fr.app N18 N19q
  have K19 : Keep h0 T19.heap [] := by rw [hh19]; exact K18
  obtain ⟨clA, ArA, -, SA, NA, HA, -⟩ := V_b6_18
  have S6 : clA.slots.size = 6 := SA
  have hat0 : clA.slots[((0 : Int32)).toNatClampNeg]? = some (.int (own_x0 p1 p2 p3)) := HA 0 (by rw [S6]; decide)
  have hat1 : clA.slots[((1 : Int32)).toNatClampNeg]? = some (.int (own_x1 p1 p2 p3)) := HA 1 (by rw [S6]; decide)
  have hat2 : clA.slots[((2 : Int32)).toNatClampNeg]? = some (.int (own_x2 p1 p2 p3)) := HA 2 (by rw [S6]; decide)
  have hat3 : clA.slots[((3 : Int32)).toNatClampNeg]? = some (.int (own_x3 p1 p2 p3)) := HA 3 (by rw [S6]; decide)
  have hat4 : clA.slots[((4 : Int32)).toNatClampNeg]? = some (.int (own_x4 p1 p2 p3)) := HA 4 (by rw [S6]; decide)
  have hat5 : clA.slots[((5 : Int32)).toNatClampNeg]? = some (.int (own_x5 p1 p2 p3)) := HA 5 (by rw [S6]; decide)
  obtain ⟨_, _, ⟨T20, L20, k20, n20⟩, -, X20, ⟨Lc20, hQ20, l20, y20, z20⟩, st20⟩ := Jvm.LawKit.callS X19 hx (y := (⟨"java/lang/Math", "max", "(II)I"⟩ : MethodName)) hown (mvT hZ (hw _ (List.mem_of_getElem? (i := 10) rfl))) (mvT hZ (hw _ (List.mem_of_getElem? (i := 11) rfl))) (mvT hZ (hw _ (List.mem_of_getElem? (i := 8) rfl))) (mvT hZ (hw _ (List.mem_of_getElem? (i := 12) rfl))) (by decide) (backOf (W := 0) (rm3 l Z a0 hw [] (own_m p4) (own_m p5) T19.heap n0 (Nat.le_trans Z0 K19.1)) hZ (hw _ (List.mem_of_getElem? (i := 12) rfl)) (hw _ (List.mem_of_getElem? (i := 8) rfl)) (by decide) (by decide)) (g := (mkF m 110 #[.val (.int p1), .val (.int p2), .val (.int p3), .val (.int p4), .val (.int p5), .val (.ref b6), .val (.int (own_m p4)), .val (.int (own_m p5)), .val (.int (own_r2 (own_m p4) (own_m p5))), .unset, .unset] [(.int (own_m p5)), (.int (own_m p4))])) rfl (by rw [hml]; rfl) (argsL := [(.int (own_m p4)), (.int (own_m p5))]) (rest := []) (lenOf pdx_1 rfl) rfl (by show 2 * 0 + _ ≤ _; exact Nat.le_of_eq rfl) (hb hby at_110) (fun _ _ => ⟨rfl, rfl, (by decide : 1 + 0 ≤ _), (by decide : 6 + 0 ≤ _)⟩)
  dsimp only [Pt.U, Pt.locs, Pt.cells, Pt.slots] at X20 l20 y20 z20 st20 hQ20
  subst l20 y20 z20
  obtain ⟨rfl, N20q, g20⟩ := hQ20
  have N20 := Fr.app N19 N20q
  have hh20 := g20.trans hh19
  have K20 : Keep h0 T20.heap [] := by rw [hh20]; exact K18
  obtain ⟨_, _, ⟨T21, L21, k21, n21⟩, -, X21, ⟨Lc21, hQ21, l21, y21, z21⟩, st21⟩ := Jvm.LawKit.callS X20 hx (y := (⟨"com/example/countersign/countersign/core/LinesLineEndPinLaw", "pick", "([BIIII)I"⟩ : MethodName)) hown (mvT hZ (hw _ (List.mem_of_getElem? (i := 13) rfl))) (mvT hZ (hw _ (List.mem_of_getElem? (i := 14) rfl))) (mvT hZ (hw _ (List.mem_of_getElem? (i := 3) rfl))) (mvT hZ (hw _ (List.mem_of_getElem? (i := 15) rfl))) (by decide) (backOf (W := 0) (rm4 l Z a0 hw [] b6 (5 : Int32) (own_r2 (own_m p4) (own_m p5)) (own_r3 (own_m p4) (own_m p5)) (own_r3 (own_m p4) (own_m p5)) (own_x5 p1 p2 p3) clA T20.heap n0 (Nat.le_trans Z0 K20.1) (by rw [hh20]; exact ArA) (inb_of SA ⟨by decide, by decide⟩) hat5) hZ (hw _ (List.mem_of_getElem? (i := 15) rfl)) (hw _ (List.mem_of_getElem? (i := 3) rfl)) (by decide) (by decide)) (g := (mkF m 128 #[.val (.int p1), .val (.int p2), .val (.int p3), .val (.int p4), .val (.int p5), .val (.ref b6), .val (.int (own_m p4)), .val (.int (own_m p5)), .val (.int (own_r2 (own_m p4) (own_m p5))), .val (.int (own_r3 (own_m p4) (own_m p5))), .val (.int (own_r3 (own_m p4) (own_m p5)))] [(.int (own_r3 (own_m p4) (own_m p5))), (.int (own_r3 (own_m p4) (own_m p5))), (.int (own_r2 (own_m p4) (own_m p5))), (.int (5 : Int32)), (.ref b6)])) rfl (by rw [hml]; rfl) (argsL := [(.ref b6), (.int (5 : Int32)), (.int (own_r2 (own_m p4) (own_m p5))), (.int (own_r3 (own_m p4) (own_m p5))), (.int (own_r3 (own_m p4) (own_m p5)))]) (rest := []) (lenOf pdx_2 rfl) rfl (by show 2 * 0 + _ ≤ _; exact Nat.le_of_eq rfl) (hb hby at_128) (fun _ _ => ⟨rfl, rfl, (by decide : 1 + 0 ≤ _), (by decide : 6 + 0 ≤ _)⟩)
  dsimp only [Pt.U, Pt.locs, Pt.cells, Pt.slots] at X21 l21 y21 z21 st21 hQ21
  subst l21 y21 z21
  obtain ⟨rfl, N21q, g21⟩ := hQ21
  have N21 := Fr.app N20 N21q
  have hh21 := g21.trans hh20
  have K21 : Keep h0 T21.heap [] := by rw [hh21]; exact K18
  obtain ⟨_, _, ⟨T22, L22, k22, n22⟩, -, X22, ⟨Lc22, hQ22, l22, y22, z22⟩, st22⟩ := Jvm.LawKit.callS X21 hx (y := (⟨"com/example/countersign/countersign/core/LinesLineEndPinLaw", "pick", "([BIIII)I"⟩ : MethodName)) hown (mvT hZ (hw _ (List.mem_of_getElem? (i := 13) rfl))) (mvT hZ (hw _ (List.mem_of_getElem? (i := 14) rfl))) (mvT hZ (hw _ (List.mem_of_getElem? (i := 3) rfl))) (mvT hZ (hw _ (List.mem_of_getElem? (i := 15) rfl))) (by decide) (backOf (W := 0) (rm4 l Z a0 hw [] b6 (4 : Int32) (own_r2 (own_m p4) (own_m p5)) (own_r3 (own_m p4) (own_m p5)) (own_pk (own_x5 p1 p2 p3) (5 : Int32) (own_r2 (own_m p4) (own_m p5)) (own_r3 (own_m p4) (own_m p5)) (own_r3 (own_m p4) (own_m p5))) (own_x4 p1 p2 p3) clA T21.heap n0 (Nat.le_trans Z0 K21.1) (by rw [hh21]; exact ArA) (inb_of SA ⟨by decide, by decide⟩) hat4) hZ (hw _ (List.mem_of_getElem? (i := 15) rfl)) (hw _ (List.mem_of_getElem? (i := 3) rfl)) (by decide) (by decide)) (g := (mkF m 142 #[.val (.int p1), .val (.int p2), .val (.int p3), .val (.int p4), .val (.int p5), .val (.ref b6), .val (.int (own_m p4)), .val (.int (own_m p5)), .val (.int (own_r2 (own_m p4) (own_m p5))), .val (.int (own_r3 (own_m p4) (own_m p5))), .val (.int (own_pk (own_x5 p1 p2 p3) (5 : Int32) (own_r2 (own_m p4) (own_m p5)) (own_r3 (own_m p4) (own_m p5)) (own_r3 (own_m p4) (own_m p5))))] [(.int (own_pk (own_x5 p1 p2 p3) (5 : Int32) (own_r2 (own_m p4) (own_m p5)) (own_r3 (own_m p4) (own_m p5)) (own_r3 (own_m p4) (own_m p5)))), (.int (own_r3 (own_m p4) (own_m p5))), (.int (own_r2 (own_m p4) (own_m p5))), (.int (4 : Int32)), (.ref b6)])) rfl (by rw [hml]; rfl) (argsL := [(.ref b6), (.int (4 : Int32)), (.int (own_r2 (own_m p4) (own_m p5))), (.int (own_r3 (own_m p4) (own_m p5))), (.int (own_pk (own_x5 p1 p2 p3) (5 : Int32) (own_r2 (own_m p4) (own_m p5)) (own_r3 (own_m p4) (own_m p5)) (own_r3 (own_m p4) (own_m p5))))]) (rest := []) (lenOf pdx_2 rfl) rfl (by show 2 * 0 + _ ≤ _; exact Nat.le_of_eq rfl) (hb hby at_142) (fun _ _ => ⟨rfl, rfl, (by decide : 1 + 0 ≤ _), (by decide : 6 + 0 ≤ _)⟩)
  dsimp only [Pt.U, Pt.locs, Pt.cells, Pt.slots] at X22 l22 y22 z22 st22 hQ22
  subst l22 y22 z22
  obtain ⟨rfl, N22q, g22⟩ := hQ22
  have N22 := Fr.app N21 N22q
  have hh22 := g22.trans hh21
  have K22 : Keep h0 T22.heap [] := by rw [hh22]; exact K18
  obtain ⟨_, _, ⟨T23, L23, k23, n23⟩, -, X23, ⟨Lc23, hQ23, l23, y23, z23⟩, st23⟩ := Jvm.LawKit.callS X22 hx (y := (⟨"com/example/countersign/countersign/core/LinesLineEndPinLaw", "pick", "([BIIII)I"⟩ : MethodName)) hown (mvT hZ (hw _ (List.mem_of_getElem? (i := 13) rfl))) (mvT hZ (hw _ (List.mem_of_getElem? (i := 14) rfl))) (mvT hZ (hw _ (List.mem_of_getElem? (i := 3) rfl))) (mvT hZ (hw _ (List.mem_of_getElem? (i := 15) rfl))) (by decide) (backOf (W := 0) (rm4 l Z a0 hw [] b6 (3 : Int32) (own_r2 (own_m p4) (own_m p5)) (own_r3 (own_m p4) (own_m p5)) (own_pk (own_x4 p1 p2 p3) (4 : Int32) (own_r2 (own_m p4) (own_m p5)) (own_r3 (own_m p4) (own_m p5)) (own_pk (own_x5 p1 p2 p3) (5 : Int32) (own_r2 (own_m p4) (own_m p5)) (own_r3 (own_m p4) (own_m p5)) (own_r3 (own_m p4) (own_m p5)))) (own_x3 p1 p2 p3) clA T22.heap n0 (Nat.le_trans Z0 K22.1) (by rw [hh22]; exact ArA) (inb_of SA ⟨by decide, by decide⟩) hat3) hZ (hw _ (List.mem_of_getElem? (i := 15) rfl)) (hw _ (List.mem_of_getElem? (i := 3) rfl)) (by decide) (by decide)) (g := (mkF m 156 #[.val (.int p1), .val (.int p2), .val (.int p3), .val (.int p4), .val (.int p5), .val (.ref b6), .val (.int (own_m p4)), .val (.int (own_m p5)), .val (.int (own_r2 (own_m p4) (own_m p5))), .val (.int (own_r3 (own_m p4) (own_m p5))), .val (.int (own_pk (own_x4 p1 p2 p3) (4 : Int32) (own_r2 (own_m p4) (own_m p5)) (own_r3 (own_m p4) (own_m p5)) (own_pk (own_x5 p1 p2 p3) (5 : Int32) (own_r2 (own_m p4) (own_m p5)) (own_r3 (own_m p4) (own_m p5)) (own_r3 (own_m p4) (own_m p5)))))] [(.int (own_pk (own_x4 p1 p2 p3) (4 : Int32) (own_r2 (own_m p4) (own_m p5)) (own_r3 (own_m p4) (own_m p5)) (own_pk (own_x5 p1 p2 p3) (5 : Int32) (own_r2 (own_m p4) (own_m p5)) (own_r3 (own_m p4) (own_m p5)) (own_r3 (own_m p4) (own_m p5))))), (.int (own_r3 (own_m p4) (own_m p5))), (.int (own_r2 (own_m p4) (own_m p5))), (.int (3 : Int32)), (.ref b6)])) rfl (by rw [hml]; rfl) (argsL := [(.ref b6), (.int (3 : Int32)), (.int (own_r2 (own_m p4) (own_m p5))), (.int (own_r3 (own_m p4) (own_m p5))), (.int (own_pk (own_x4 p1 p2 p3) (4 : Int32) (own_r2 (own_m p4) (own_m p5)) (own_r3 (own_m p4) (own_m p5)) (own_pk (own_x5 p1 p2 p3) (5 : Int32) (own_r2 (own_m p4) (own_m p5)) (own_r3 (own_m p4) (own_m p5)) (own_r3 (own_m p4) (own_m p5)))))]) (rest := []) (lenOf pdx_2 rfl) rfl (by show 2 * 0 + _ ≤ _; exact Nat.le_of_eq rfl) (hb hby at_156) (fun _ _ => ⟨rfl, rfl, (by decide : 1 + 0 ≤ _), (by decide : 6 + 0 ≤ _)⟩)
  dsimp only [Pt.U, Pt.locs, Pt.cells, Pt.slots] at X23 l23 y23 z23 st23 hQ23
  subst l23 y23 z23
  obtain ⟨rfl, N23q, g23⟩ := hQ23
  have N23 := Fr.app N22 N23q
  have hh23 := g23.trans hh22
  have K23 : Keep h0 T23.heap [] := by rw [hh23]; exact K18
  obtain ⟨_, _, ⟨T24, L24, k24, n24⟩, -, X24, ⟨Lc24, hQ24, l24, y24, z24⟩, st24⟩ := Jvm.LawKit.callS X23 hx (y := (⟨"com/example/countersign/countersign/core/LinesLineEndPinLaw", "pick", "([BIIII)I"⟩ : MethodName)) hown (mvT hZ (hw _ (List.mem_of_getElem? (i := 13) rfl))) (mvT hZ (hw _ (List.mem_of_getElem? (i := 14) rfl))) (mvT hZ (hw _ (List.mem_of_getElem? (i := 3) rfl))) (mvT hZ (hw _ (List.mem_of_getElem? (i := 15) rfl))) (by decide) (backOf (W := 0) (rm4 l Z a0 hw [] b6 (2 : Int32) (own_r2 (own_m p4) (own_m p5)) (own_r3 (own_m p4) (own_m p5)) (own_pk (own_x3 p1 p2 p3) (3 : Int32) (own_r2 (own_m p4) (own_m p5)) (own_r3 (own_m p4) (own_m p5)) (own_pk (own_x4 p1 p2 p3) (4 : Int32) (own_r2 (own_m p4) (own_m p5)) (own_r3 (own_m p4) (own_m p5)) (own_pk (own_x5 p1 p2 p3) (5 : Int32) (own_r2 (own_m p4) (own_m p5)) (own_r3 (own_m p4) (own_m p5)) (own_r3 (own_m p4) (own_m p5))))) (own_x2 p1 p2 p3) clA T23.heap n0 (Nat.le_trans Z0 K23.1) (by rw [hh23]; exact ArA) (inb_of SA ⟨by decide, by decide⟩) hat2) hZ (hw _ (List.mem_of_getElem? (i := 15) rfl)) (hw _ (List.mem_of_getElem? (i := 3) rfl)) (by decide) (by decide)) (g := (mkF m 170 #[.val (.int p1), .val (.int p2), .val (.int p3), .val (.int p4), .val (.int p5), .val (.ref b6), .val (.int (own_m p4)), .val (.int (own_m p5)), .val (.int (own_r2 (own_m p4) (own_m p5))), .val (.int (own_r3 (own_m p4) (own_m p5))), .val (.int (own_pk (own_x3 p1 p2 p3) (3 : Int32) (own_r2 (own_m p4) (own_m p5)) (own_r3 (own_m p4) (own_m p5)) (own_pk (own_x4 p1 p2 p3) (4 : Int32) (own_r2 (own_m p4) (own_m p5)) (own_r3 (own_m p4) (own_m p5)) (own_pk (own_x5 p1 p2 p3) (5 : Int32) (own_r2 (own_m p4) (own_m p5)) (own_r3 (own_m p4) (own_m p5)) (own_r3 (own_m p4) (own_m p5))))))] [(.int (own_pk (own_x3 p1 p2 p3) (3 : Int32) (own_r2 (own_m p4) (own_m p5)) (own_r3 (own_m p4) (own_m p5)) (own_pk (own_x4 p1 p2 p3) (4 : Int32) (own_r2 (own_m p4) (own_m p5)) (own_r3 (own_m p4) (own_m p5)) (own_pk (own_x5 p1 p2 p3) (5 : Int32) (own_r2 (own_m p4) (own_m p5)) (own_r3 (own_m p4) (own_m p5)) (own_r3 (own_m p4) (own_m p5)))))), (.int (own_r3 (own_m p4) (own_m p5))), (.int (own_r2 (own_m p4) (own_m p5))), (.int (2 : Int32)), (.ref b6)])) rfl (by rw [hml]; rfl) (argsL := [(.ref b6), (.int (2 : Int32)), (.int (own_r2 (own_m p4) (own_m p5))), (.int (own_r3 (own_m p4) (own_m p5))), (.int (own_pk (own_x3 p1 p2 p3) (3 : Int32) (own_r2 (own_m p4) (own_m p5)) (own_r3 (own_m p4) (own_m p5)) (own_pk (own_x4 p1 p2 p3) (4 : Int32) (own_r2 (own_m p4) (own_m p5)) (own_r3 (own_m p4) (own_m p5)) (own_pk (own_x5 p1 p2 p3) (5 : Int32) (own_r2 (own_m p4) (own_m p5)) (own_r3 (own_m p4) (own_m p5)) (own_r3 (own_m p4) (own_m p5))))))]) (rest := []) (lenOf pdx_2 rfl) rfl (by show 2 * 0 + _ ≤ _; exact Nat.le_of_eq rfl) (hb hby at_170) (fun _ _ => ⟨rfl, rfl, (by decide : 1 + 0 ≤ _), (by decide : 6 + 0 ≤ _)⟩)
  dsimp only [Pt.U, Pt.locs, Pt.cells, Pt.slots] at X24 l24 y24 z24 st24 hQ24
  subst l24 y24 z24
  obtain ⟨rfl, N24q, g24⟩ := hQ24
  have N24 := Fr.app N23 N24q
  have hh24 := g24.trans hh23
  have K24 : Keep h0 T24.heap [] := by rw [hh24]; exact K18
  obtain ⟨_, _, ⟨T25, L25, k25, n25⟩, -, X25, ⟨Lc25, hQ25, l25, y25, z25⟩, st25⟩ := Jvm.LawKit.callS X24 hx (y := (⟨"com/example/countersign/countersign/core/LinesLineEndPinLaw", "pick", "([BIIII)I"⟩ : MethodName)) hown (mvT hZ (hw _ (List.mem_of_getElem? (i := 13) rfl))) (mvT hZ (hw _ (List.mem_of_getElem? (i := 14) rfl))) (mvT hZ (hw _ (List.mem_of_getElem? (i := 3) rfl))) (mvT hZ (hw _ (List.mem_of_getElem? (i := 15) rfl))) (by decide) (backOf (W := 0) (rm4 l Z a0 hw [] b6 (1 : Int32) (own_r2 (own_m p4) (own_m p5)) (own_r3 (own_m p4) (own_m p5)) (own_pk (own_x2 p1 p2 p3) (2 : Int32) (own_r2 (own_m p4) (own_m p5)) (own_r3 (own_m p4) (own_m p5)) (own_pk (own_x3 p1 p2 p3) (3 : Int32) (own_r2 (own_m p4) (own_m p5)) (own_r3 (own_m p4) (own_m p5)) (own_pk (own_x4 p1 p2 p3) (4 : Int32) (own_r2 (own_m p4) (own_m p5)) (own_r3 (own_m p4) (own_m p5)) (own_pk (own_x5 p1 p2 p3) (5 : Int32) (own_r2 (own_m p4) (own_m p5)) (own_r3 (own_m p4) (own_m p5)) (own_r3 (own_m p4) (own_m p5)))))) (own_x1 p1 p2 p3) clA T24.heap n0 (Nat.le_trans Z0 K24.1) (by rw [hh24]; exact ArA) (inb_of SA ⟨by decide, by decide⟩) hat1) hZ (hw _ (List.mem_of_getElem? (i := 15) rfl)) (hw _ (List.mem_of_getElem? (i := 3) rfl)) (by decide) (by decide)) (g := (mkF m 184 #[.val (.int p1), .val (.int p2), .val (.int p3), .val (.int p4), .val (.int p5), .val (.ref b6), .val (.int (own_m p4)), .val (.int (own_m p5)), .val (.int (own_r2 (own_m p4) (own_m p5))), .val (.int (own_r3 (own_m p4) (own_m p5))), .val (.int (own_pk (own_x2 p1 p2 p3) (2 : Int32) (own_r2 (own_m p4) (own_m p5)) (own_r3 (own_m p4) (own_m p5)) (own_pk (own_x3 p1 p2 p3) (3 : Int32) (own_r2 (own_m p4) (own_m p5)) (own_r3 (own_m p4) (own_m p5)) (own_pk (own_x4 p1 p2 p3) (4 : Int32) (own_r2 (own_m p4) (own_m p5)) (own_r3 (own_m p4) (own_m p5)) (own_pk (own_x5 p1 p2 p3) (5 : Int32) (own_r2 (own_m p4) (own_m p5)) (own_r3 (own_m p4) (own_m p5)) (own_r3 (own_m p4) (own_m p5)))))))] [(.int (own_pk (own_x2 p1 p2 p3) (2 : Int32) (own_r2 (own_m p4) (own_m p5)) (own_r3 (own_m p4) (own_m p5)) (own_pk (own_x3 p1 p2 p3) (3 : Int32) (own_r2 (own_m p4) (own_m p5)) (own_r3 (own_m p4) (own_m p5)) (own_pk (own_x4 p1 p2 p3) (4 : Int32) (own_r2 (own_m p4) (own_m p5)) (own_r3 (own_m p4) (own_m p5)) (own_pk (own_x5 p1 p2 p3) (5 : Int32) (own_r2 (own_m p4) (own_m p5)) (own_r3 (own_m p4) (own_m p5)) (own_r3 (own_m p4) (own_m p5))))))), (.int (own_r3 (own_m p4) (own_m p5))), (.int (own_r2 (own_m p4) (own_m p5))), (.int (1 : Int32)), (.ref b6)])) rfl (by rw [hml]; rfl) (argsL := [(.ref b6), (.int (1 : Int32)), (.int (own_r2 (own_m p4) (own_m p5))), (.int (own_r3 (own_m p4) (own_m p5))), (.int (own_pk (own_x2 p1 p2 p3) (2 : Int32) (own_r2 (own_m p4) (own_m p5)) (own_r3 (own_m p4) (own_m p5)) (own_pk (own_x3 p1 p2 p3) (3 : Int32) (own_r2 (own_m p4) (own_m p5)) (own_r3 (own_m p4) (own_m p5)) (own_pk (own_x4 p1 p2 p3) (4 : Int32) (own_r2 (own_m p4) (own_m p5)) (own_r3 (own_m p4) (own_m p5)) (own_pk (own_x5 p1 p2 p3) (5 : Int32) (own_r2 (own_m p4) (own_m p5)) (own_r3 (own_m p4) (own_m p5)) (own_r3 (own_m p4) (own_m p5)))))))]) (rest := []) (lenOf pdx_2 rfl) rfl (by show 2 * 0 + _ ≤ _; exact Nat.le_of_eq rfl) (hb hby at_184) (fun _ _ => ⟨rfl, rfl, (by decide : 1 + 0 ≤ _), (by decide : 6 + 0 ≤ _)⟩)
  dsimp only [Pt.U, Pt.locs, Pt.cells, Pt.slots] at X25 l25 y25 z25 st25 hQ25
  subst l25 y25 z25
  obtain ⟨rfl, N25q, g25⟩ := hQ25
  have N25 := Fr.app N24 N25q
  have hh25 := g25.trans hh24
  have K25 : Keep h0 T25.heap [] := by rw [hh25]; exact K18
  obtain ⟨_, _, ⟨T26, L26, k26, n26⟩, -, X26, ⟨Lc26, hQ26, l26, y26, z26⟩, st26⟩ := Jvm.LawKit.callS X25 hx (y := (⟨"com/example/countersign/countersign/core/LinesLineEndPinLaw", "pick", "([BIIII)I"⟩ : MethodName)) hown (mvT hZ (hw _ (List.mem_of_getElem? (i := 13) rfl))) (mvT hZ (hw _ (List.mem_of_getElem? (i := 14) rfl))) (mvT hZ (hw _ (List.mem_of_getElem? (i := 3) rfl))) (mvT hZ (hw _ (List.mem_of_getElem? (i := 15) rfl))) (by decide) (backOf (W := 0) (rm4 l Z a0 hw [] b6 (0 : Int32) (own_r2 (own_m p4) (own_m p5)) (own_r3 (own_m p4) (own_m p5)) (own_pk (own_x1 p1 p2 p3) (1 : Int32) (own_r2 (own_m p4) (own_m p5)) (own_r3 (own_m p4) (own_m p5)) (own_pk (own_x2 p1 p2 p3) (2 : Int32) (own_r2 (own_m p4) (own_m p5)) (own_r3 (own_m p4) (own_m p5)) (own_pk (own_x3 p1 p2 p3) (3 : Int32) (own_r2 (own_m p4) (own_m p5)) (own_r3 (own_m p4) (own_m p5)) (own_pk (own_x4 p1 p2 p3) (4 : Int32) (own_r2 (own_m p4) (own_m p5)) (own_r3 (own_m p4) (own_m p5)) (own_pk (own_x5 p1 p2 p3) (5 : Int32) (own_r2 (own_m p4) (own_m p5)) (own_r3 (own_m p4) (own_m p5)) (own_r3 (own_m p4) (own_m p5))))))) (own_x0 p1 p2 p3) clA T25.heap n0 (Nat.le_trans Z0 K25.1) (by rw [hh25]; exact ArA) (inb_of SA ⟨by decide, by decide⟩) hat0) hZ (hw _ (List.mem_of_getElem? (i := 15) rfl)) (hw _ (List.mem_of_getElem? (i := 3) rfl)) (by decide) (by decide)) (g := (mkF m 198 #[.val (.int p1), .val (.int p2), .val (.int p3), .val (.int p4), .val (.int p5), .val (.ref b6), .val (.int (own_m p4)), .val (.int (own_m p5)), .val (.int (own_r2 (own_m p4) (own_m p5))), .val (.int (own_r3 (own_m p4) (own_m p5))), .val (.int (own_pk (own_x1 p1 p2 p3) (1 : Int32) (own_r2 (own_m p4) (own_m p5)) (own_r3 (own_m p4) (own_m p5)) (own_pk (own_x2 p1 p2 p3) (2 : Int32) (own_r2 (own_m p4) (own_m p5)) (own_r3 (own_m p4) (own_m p5)) (own_pk (own_x3 p1 p2 p3) (3 : Int32) (own_r2 (own_m p4) (own_m p5)) (own_r3 (own_m p4) (own_m p5)) (own_pk (own_x4 p1 p2 p3) (4 : Int32) (own_r2 (own_m p4) (own_m p5)) (own_r3 (own_m p4) (own_m p5)) (own_pk (own_x5 p1 p2 p3) (5 : Int32) (own_r2 (own_m p4) (own_m p5)) (own_r3 (own_m p4) (own_m p5)) (own_r3 (own_m p4) (own_m p5))))))))] [(.int (own_pk (own_x1 p1 p2 p3) (1 : Int32) (own_r2 (own_m p4) (own_m p5)) (own_r3 (own_m p4) (own_m p5)) (own_pk (own_x2 p1 p2 p3) (2 : Int32) (own_r2 (own_m p4) (own_m p5)) (own_r3 (own_m p4) (own_m p5)) (own_pk (own_x3 p1 p2 p3) (3 : Int32) (own_r2 (own_m p4) (own_m p5)) (own_r3 (own_m p4) (own_m p5)) (own_pk (own_x4 p1 p2 p3) (4 : Int32) (own_r2 (own_m p4) (own_m p5)) (own_r3 (own_m p4) (own_m p5)) (own_pk (own_x5 p1 p2 p3) (5 : Int32) (own_r2 (own_m p4) (own_m p5)) (own_r3 (own_m p4) (own_m p5)) (own_r3 (own_m p4) (own_m p5)))))))), (.int (own_r3 (own_m p4) (own_m p5))), (.int (own_r2 (own_m p4) (own_m p5))), (.int (0 : Int32)), (.ref b6)])) rfl (by rw [hml]; rfl) (argsL := [(.ref b6), (.int (0 : Int32)), (.int (own_r2 (own_m p4) (own_m p5))), (.int (own_r3 (own_m p4) (own_m p5))), (.int (own_pk (own_x1 p1 p2 p3) (1 : Int32) (own_r2 (own_m p4) (own_m p5)) (own_r3 (own_m p4) (own_m p5)) (own_pk (own_x2 p1 p2 p3) (2 : Int32) (own_r2 (own_m p4) (own_m p5)) (own_r3 (own_m p4) (own_m p5)) (own_pk (own_x3 p1 p2 p3) (3 : Int32) (own_r2 (own_m p4) (own_m p5)) (own_r3 (own_m p4) (own_m p5)) (own_pk (own_x4 p1 p2 p3) (4 : Int32) (own_r2 (own_m p4) (own_m p5)) (own_r3 (own_m p4) (own_m p5)) (own_pk (own_x5 p1 p2 p3) (5 : Int32) (own_r2 (own_m p4) (own_m p5)) (own_r3 (own_m p4) (own_m p5)) (own_r3 (own_m p4) (own_m p5))))))))]) (rest := []) (lenOf pdx_2 rfl) rfl (by show 2 * 0 + _ ≤ _; exact Nat.le_of_eq rfl) (hb hby at_198) (fun _ _ => ⟨rfl, rfl, (by decide : 1 + 0 ≤ _), (by decide : 6 + 0 ≤ _)⟩)
  dsimp only [Pt.U, Pt.locs, Pt.cells, Pt.slots] at X26 l26 y26 z26 st26 hQ26
  subst l26 y26 z26
  obtain ⟨rfl, N26q, g26⟩ := hQ26
  have N26 := Fr.app N25 N26q
  have hh26 := g26.trans hh25
  have K26 : Keep h0 T26.heap [] := by rw [hh26]; exact K18
  obtain ⟨a, ha, ea⟩ := own_seven p4
  obtain ⟨b, hb7, eb⟩ := own_seven p5
  have emin : (own_r2 (own_m p4) (own_m p5)) = Int32.ofNat (min a b) := by rw [ea, eb]; exact own_min2 ⟨a, ha⟩ ⟨b, hb7⟩
  have emax : (own_r3 (own_m p4) (own_m p5)) = Int32.ofNat (max a b) := by rw [ea, eb]; exact own_max2 ⟨a, ha⟩ ⟨b, hb7⟩
  have hatA : ∀ j, j < max a b → clA.slots[j]? = some (.int (own_f (own_x0 p1 p2 p3) (own_x1 p1 p2 p3) (own_x2 p1 p2 p3) (own_x3 p1 p2 p3) (own_x4 p1 p2 p3) (own_x5 p1 p2 p3) j)) := by
    intro j hj
    have hj6 : j < 6 := by omega
    match j, hj6 with
    | 0, _ => exact hat0
    | 1, _ => exact hat1
    | 2, _ => exact hat2
    | 3, _ => exact hat3
    | 4, _ => exact hat4
    | 5, _ => exact hat5
  obtain ⟨_, _, ⟨T27, L27, k27, n27⟩, -, X27, ⟨Lc27, hQ27, l27, y27, z27⟩, st27⟩ := Jvm.LawKit.callS X26 hx (y := (⟨"com/example/countersign/countersign/core/Lines", "lineEnd", "([BII)I"⟩ : MethodName)) hown (mvT hZ (hw _ (List.mem_of_getElem? (i := 16) rfl))) (mvT hZ (hw _ (List.mem_of_getElem? (i := 17) rfl))) (mvT hZ (hw _ (List.mem_of_getElem? (i := 18) rfl))) (mvT hZ (hw _ (List.mem_of_getElem? (i := 19) rfl))) (by decide) (backOf (W := 0) (rm5 l Z a0 hw [] b6 (own_r2 (own_m p4) (own_m p5)) (own_r3 (own_m p4) (own_m p5)) (own_f (own_x0 p1 p2 p3) (own_x1 p1 p2 p3) (own_x2 p1 p2 p3) (own_x3 p1 p2 p3) (own_x4 p1 p2 p3) (own_x5 p1 p2 p3)) (min a b) (max a b) clA T26.heap n0 (Nat.le_trans Z0 K26.1) (by omega) (by omega) emin emax (by rw [hh26]; exact ArA) (by omega) hatA) hZ (hw _ (List.mem_of_getElem? (i := 19) rfl)) (hw _ (List.mem_of_getElem? (i := 18) rfl)) (by decide) (by decide)) (g := (mkF m 209 #[.val (.int p1), .val (.int p2), .val (.int p3), .val (.int p4), .val (.int p5), .val (.ref b6), .val (.int (own_m p4)), .val (.int (own_m p5)), .val (.int (own_r2 (own_m p4) (own_m p5))), .val (.int (own_r3 (own_m p4) (own_m p5))), .val (.int (own_pk (own_x0 p1 p2 p3) (0 : Int32) (own_r2 (own_m p4) (own_m p5)) (own_r3 (own_m p4) (own_m p5)) (own_pk (own_x1 p1 p2 p3) (1 : Int32) (own_r2 (own_m p4) (own_m p5)) (own_r3 (own_m p4) (own_m p5)) (own_pk (own_x2 p1 p2 p3) (2 : Int32) (own_r2 (own_m p4) (own_m p5)) (own_r3 (own_m p4) (own_m p5)) (own_pk (own_x3 p1 p2 p3) (3 : Int32) (own_r2 (own_m p4) (own_m p5)) (own_r3 (own_m p4) (own_m p5)) (own_pk (own_x4 p1 p2 p3) (4 : Int32) (own_r2 (own_m p4) (own_m p5)) (own_r3 (own_m p4) (own_m p5)) (own_pk (own_x5 p1 p2 p3) (5 : Int32) (own_r2 (own_m p4) (own_m p5)) (own_r3 (own_m p4) (own_m p5)) (own_r3 (own_m p4) (own_m p5)))))))))] [(.int (own_r3 (own_m p4) (own_m p5))), (.int (own_r2 (own_m p4) (own_m p5))), (.ref b6)])) rfl (by rw [hml]; rfl) (argsL := [(.ref b6), (.int (own_r2 (own_m p4) (own_m p5))), (.int (own_r3 (own_m p4) (own_m p5)))]) (rest := []) (lenOf pdx_3 rfl) rfl (by show 2 * 0 + _ ≤ _; exact Nat.le_of_eq rfl) (hb hby at_209) (fun _ _ => ⟨rfl, rfl, (by decide : 1 + 0 ≤ _), (by decide : 6 + 0 ≤ _)⟩)
  dsimp only [Pt.U, Pt.locs, Pt.cells, Pt.slots] at X27 l27 y27 z27 st27 hQ27
  subst l27 y27 z27
  obtain ⟨rfl, N27q, g27⟩ := hQ27
  have N27 := Fr.app N26 N27q
  obtain ⟨fs, hr, hrun, hended, hW, hsame⟩ := X27.leave (v := some (.int (1 : Int32))) (fun h => by rw [Bd.returns] at h; cases h)
  refine ⟨_, _, pre0 _ ?_, hrun, hended, _, _, rfl, ?_, ⟨_, rfl⟩, hW, hsame.mono (by decide) (by decide)⟩
  · show Steps p.tables e below (s₁.setTop (mkF m 0 #[.val (.int p1), .val (.int p2), .val (.int p3), .val (.int p4), .val (.int p5), .unset, .unset, .unset, .unset, .unset, .unset] [])) _
    refine XS.bipush X0.here hx rfl (hb hby at_0) ?_
    show Steps p.tables e below (s₁.setTop (mkF m 2 #[.val (.int p1), .val (.int p2), .val (.int p3), .val (.int p4), .val (.int p5), .unset, .unset, .unset, .unset, .unset, .unset] [(.int (6 : Int32))])) _
    refine st6 _ ?_
    show Steps p.tables e below (T6.setTop (mkF m 4 #[.val (.int p1), .val (.int p2), .val (.int p3), .val (.int p4), .val (.int p5), .unset, .unset, .unset, .unset, .unset, .unset] [(.ref b6)])) _
    refine XS.astore X6.here hx rfl (hb hby at_4) rfl rfl (l' := #[.val (.int p1), .val (.int p2), .val (.int p3), .val (.int p4), .val (.int p5), .val (.ref b6), .unset, .unset, .unset, .unset, .unset]) rfl ?_
    show Steps p.tables e below (T6.setTop (mkF m 6 #[.val (.int p1), .val (.int p2), .val (.int p3), .val (.int p4), .val (.int p5), .val (.ref b6), .unset, .unset, .unset, .unset, .unset] [])) _
    refine XS.aload X6.here hx rfl (hb hby at_6) rfl rfl ?_
    show Steps p.tables e below (T6.setTop (mkF m 8 #[.val (.int p1), .val (.int p2), .val (.int p3), .val (.int p4), .val (.int p5), .val (.ref b6), .unset, .unset, .unset, .unset, .unset] [(.ref b6)])) _
    refine XS.iconst X6.here hx rfl (hb hby at_8) ?_
    show Steps p.tables e below (T6.setTop (mkF m 9 #[.val (.int p1), .val (.int p2), .val (.int p3), .val (.int p4), .val (.int p5), .val (.ref b6), .unset, .unset, .unset, .unset, .unset] [(.int (0 : Int32)), (.ref b6)])) _
    refine XS.iloadN X6.here hx rfl (hb hby at_9) rfl ?_
    show Steps p.tables e below (T6.setTop (mkF m 10 #[.val (.int p1), .val (.int p2), .val (.int p3), .val (.int p4), .val (.int p5), .val (.ref b6), .unset, .unset, .unset, .unset, .unset] [(.int p3), (.int (0 : Int32)), (.ref b6)])) _
    refine XS.iconst X6.here hx rfl (hb hby at_10) ?_
    show Steps p.tables e below (T6.setTop (mkF m 11 #[.val (.int p1), .val (.int p2), .val (.int p3), .val (.int p4), .val (.int p5), .val (.ref b6), .unset, .unset, .unset, .unset, .unset] [(.int (0 : Int32)), (.int p3), (.int (0 : Int32)), (.ref b6)])) _
    refine XS.iloadN X6.here hx rfl (hb hby at_11) rfl ?_
    show Steps p.tables e below (T6.setTop (mkF m 12 #[.val (.int p1), .val (.int p2), .val (.int p3), .val (.int p4), .val (.int p5), .val (.ref b6), .unset, .unset, .unset, .unset, .unset] [(.int p1), (.int (0 : Int32)), (.int p3), (.int (0 : Int32)), (.ref b6)])) _
    refine st7 _ ?_
    show Steps p.tables e below (T7.setTop (mkF m 15 #[.val (.int p1), .val (.int p2), .val (.int p3), .val (.int p4), .val (.int p5), .val (.ref b6), .unset, .unset, .unset, .unset, .unset] [(.int (own_draw p3 (0 : Int32) p1)), (.int (0 : Int32)), (.ref b6)])) _
    refine st8 _ ?_
    show Steps p.tables e below (T8.setTop (mkF m 16 #[.val (.int p1), .val (.int p2), .val (.int p3), .val (.int p4), .val (.int p5), .val (.ref b6), .unset, .unset, .unset, .unset, .unset] [])) _
    refine XS.aload X8.here hx rfl (hb hby at_16) rfl rfl ?_
    show Steps p.tables e below (T8.setTop (mkF m 18 #[.val (.int p1), .val (.int p2), .val (.int p3), .val (.int p4), .val (.int p5), .val (.ref b6), .unset, .unset, .unset, .unset, .unset] [(.ref b6)])) _
    refine XS.iconst X8.here hx rfl (hb hby at_18) ?_
    show Steps p.tables e below (T8.setTop (mkF m 19 #[.val (.int p1), .val (.int p2), .val (.int p3), .val (.int p4), .val (.int p5), .val (.ref b6), .unset, .unset, .unset, .unset, .unset] [(.int (1 : Int32)), (.ref b6)])) _
    refine XS.iloadN X8.here hx rfl (hb hby at_19) rfl ?_
    show Steps p.tables e below (T8.setTop (mkF m 20 #[.val (.int p1), .val (.int p2), .val (.int p3), .val (.int p4), .val (.int p5), .val (.ref b6), .unset, .unset, .unset, .unset, .unset] [(.int p3), (.int (1 : Int32)), (.ref b6)])) _
    refine XS.iconst X8.here hx rfl (hb hby at_20) ?_
    show Steps p.tables e below (T8.setTop (mkF m 21 #[.val (.int p1), .val (.int p2), .val (.int p3), .val (.int p4), .val (.int p5), .val (.ref b6), .unset, .unset, .unset, .unset, .unset] [(.int (1 : Int32)), (.int p3), (.int (1 : Int32)), (.ref b6)])) _
    refine XS.iloadN X8.here hx rfl (hb hby at_21) rfl ?_
    show Steps p.tables e below (T8.setTop (mkF m 22 #[.val (.int p1), .val (.int p2), .val (.int p3), .val (.int p4), .val (.int p5), .val (.ref b6), .unset, .unset, .unset, .unset, .unset] [(.int p1), (.int (1 : Int32)), (.int p3), (.int (1 : Int32)), (.ref b6)])) _
    refine XS.bipush X8.here hx rfl (hb hby at_22) ?_
    show Steps p.tables e below (T8.setTop (mkF m 24 #[.val (.int p1), .val (.int p2), .val (.int p3), .val (.int p4), .val (.int p5), .val (.ref b6), .unset, .unset, .unset, .unset, .unset] [(.int (8 : Int32)), (.int p1), (.int (1 : Int32)), (.int p3), (.int (1 : Int32)), (.ref b6)])) _
    refine XS.ishr X8.here hx rfl (hb hby at_24) rfl ?_
    show Steps p.tables e below (T8.setTop (mkF m 25 #[.val (.int p1), .val (.int p2), .val (.int p3), .val (.int p4), .val (.int p5), .val (.ref b6), .unset, .unset, .unset, .unset, .unset] [(.int (p1 >>> ((8 : Int32) &&& 31))), (.int (1 : Int32)), (.int p3), (.int (1 : Int32)), (.ref b6)])) _
    refine st9 _ ?_
    show Steps p.tables e below (T9.setTop (mkF m 28 #[.val (.int p1), .val (.int p2), .val (.int p3), .val (.int p4), .val (.int p5), .val (.ref b6), .unset, .unset, .unset, .unset, .unset] [(.int (own_draw p3 (1 : Int32) (p1 >>> ((8 : Int32) &&& 31)))), (.int (1 : Int32)), (.ref b6)])) _
    refine st10 _ ?_
    show Steps p.tables e below (T10.setTop (mkF m 29 #[.val (.int p1), .val (.int p2), .val (.int p3), .val (.int p4), .val (.int p5), .val (.ref b6), .unset, .unset, .unset, .unset, .unset] [])) _
    refine XS.aload X10.here hx rfl (hb hby at_29) rfl rfl ?_
    show Steps p.tables e below (T10.setTop (mkF m 31 #[.val (.int p1), .val (.int p2), .val (.int p3), .val (.int p4), .val (.int p5), .val (.ref b6), .unset, .unset, .unset, .unset, .unset] [(.ref b6)])) _
    refine XS.iconst X10.here hx rfl (hb hby at_31) ?_
    show Steps p.tables e below (T10.setTop (mkF m 32 #[.val (.int p1), .val (.int p2), .val (.int p3), .val (.int p4), .val (.int p5), .val (.ref b6), .unset, .unset, .unset, .unset, .unset] [(.int (2 : Int32)), (.ref b6)])) _
    refine XS.iloadN X10.here hx rfl (hb hby at_32) rfl ?_
    show Steps p.tables e below (T10.setTop (mkF m 33 #[.val (.int p1), .val (.int p2), .val (.int p3), .val (.int p4), .val (.int p5), .val (.ref b6), .unset, .unset, .unset, .unset, .unset] [(.int p3), (.int (2 : Int32)), (.ref b6)])) _
    refine XS.iconst X10.here hx rfl (hb hby at_33) ?_
    show Steps p.tables e below (T10.setTop (mkF m 34 #[.val (.int p1), .val (.int p2), .val (.int p3), .val (.int p4), .val (.int p5), .val (.ref b6), .unset, .unset, .unset, .unset, .unset] [(.int (2 : Int32)), (.int p3), (.int (2 : Int32)), (.ref b6)])) _
    refine XS.iloadN X10.here hx rfl (hb hby at_34) rfl ?_
    show Steps p.tables e below (T10.setTop (mkF m 35 #[.val (.int p1), .val (.int p2), .val (.int p3), .val (.int p4), .val (.int p5), .val (.ref b6), .unset, .unset, .unset, .unset, .unset] [(.int p1), (.int (2 : Int32)), (.int p3), (.int (2 : Int32)), (.ref b6)])) _
    refine XS.bipush X10.here hx rfl (hb hby at_35) ?_
    show Steps p.tables e below (T10.setTop (mkF m 37 #[.val (.int p1), .val (.int p2), .val (.int p3), .val (.int p4), .val (.int p5), .val (.ref b6), .unset, .unset, .unset, .unset, .unset] [(.int (16 : Int32)), (.int p1), (.int (2 : Int32)), (.int p3), (.int (2 : Int32)), (.ref b6)])) _
    refine XS.ishr X10.here hx rfl (hb hby at_37) rfl ?_
    show Steps p.tables e below (T10.setTop (mkF m 38 #[.val (.int p1), .val (.int p2), .val (.int p3), .val (.int p4), .val (.int p5), .val (.ref b6), .unset, .unset, .unset, .unset, .unset] [(.int (p1 >>> ((16 : Int32) &&& 31))), (.int (2 : Int32)), (.int p3), (.int (2 : Int32)), (.ref b6)])) _
    refine st11 _ ?_
    show Steps p.tables e below (T11.setTop (mkF m 41 #[.val (.int p1), .val (.int p2), .val (.int p3), .val (.int p4), .val (.int p5), .val (.ref b6), .unset, .unset, .unset, .unset, .unset] [(.int (own_draw p3 (2 : Int32) (p1 >>> ((16 : Int32) &&& 31)))), (.int (2 : Int32)), (.ref b6)])) _
    refine st12 _ ?_
    show Steps p.tables e below (T12.setTop (mkF m 42 #[.val (.int p1), .val (.int p2), .val (.int p3), .val (.int p4), .val (.int p5), .val (.ref b6), .unset, .unset, .unset, .unset, .unset] [])) _
    refine XS.aload X12.here hx rfl (hb hby at_42) rfl rfl ?_
    show Steps p.tables e below (T12.setTop (mkF m 44 #[.val (.int p1), .val (.int p2), .val (.int p3), .val (.int p4), .val (.int p5), .val (.ref b6), .unset, .unset, .unset, .unset, .unset] [(.ref b6)])) _
    refine XS.iconst X12.here hx rfl (hb hby at_44) ?_
    show Steps p.tables e below (T12.setTop (mkF m 45 #[.val (.int p1), .val (.int p2), .val (.int p3), .val (.int p4), .val (.int p5), .val (.ref b6), .unset, .unset, .unset, .unset, .unset] [(.int (3 : Int32)), (.ref b6)])) _
    refine XS.iloadN X12.here hx rfl (hb hby at_45) rfl ?_
    show Steps p.tables e below (T12.setTop (mkF m 46 #[.val (.int p1), .val (.int p2), .val (.int p3), .val (.int p4), .val (.int p5), .val (.ref b6), .unset, .unset, .unset, .unset, .unset] [(.int p3), (.int (3 : Int32)), (.ref b6)])) _
    refine XS.iconst X12.here hx rfl (hb hby at_46) ?_
    show Steps p.tables e below (T12.setTop (mkF m 47 #[.val (.int p1), .val (.int p2), .val (.int p3), .val (.int p4), .val (.int p5), .val (.ref b6), .unset, .unset, .unset, .unset, .unset] [(.int (3 : Int32)), (.int p3), (.int (3 : Int32)), (.ref b6)])) _
    refine XS.iloadN X12.here hx rfl (hb hby at_47) rfl ?_
    show Steps p.tables e below (T12.setTop (mkF m 48 #[.val (.int p1), .val (.int p2), .val (.int p3), .val (.int p4), .val (.int p5), .val (.ref b6), .unset, .unset, .unset, .unset, .unset] [(.int p1), (.int (3 : Int32)), (.int p3), (.int (3 : Int32)), (.ref b6)])) _
    refine XS.bipush X12.here hx rfl (hb hby at_48) ?_
    show Steps p.tables e below (T12.setTop (mkF m 50 #[.val (.int p1), .val (.int p2), .val (.int p3), .val (.int p4), .val (.int p5), .val (.ref b6), .unset, .unset, .unset, .unset, .unset] [(.int (24 : Int32)), (.int p1), (.int (3 : Int32)), (.int p3), (.int (3 : Int32)), (.ref b6)])) _
    refine XS.iushr X12.here hx rfl (hb hby at_50) rfl ?_
    show Steps p.tables e below (T12.setTop (mkF m 51 #[.val (.int p1), .val (.int p2), .val (.int p3), .val (.int p4), .val (.int p5), .val (.ref b6), .unset, .unset, .unset, .unset, .unset] [(.int ((p1.toUInt32 >>> ((24 : Int32) &&& 31).toUInt32).toInt32)), (.int (3 : Int32)), (.int p3), (.int (3 : Int32)), (.ref b6)])) _
    refine st13 _ ?_
    show Steps p.tables e below (T13.setTop (mkF m 54 #[.val (.int p1), .val (.int p2), .val (.int p3), .val (.int p4), .val (.int p5), .val (.ref b6), .unset, .unset, .unset, .unset, .unset] [(.int (own_draw p3 (3 : Int32) ((p1.toUInt32 >>> ((24 : Int32) &&& 31).toUInt32).toInt32))), (.int (3 : Int32)), (.ref b6)])) _
    refine st14 _ ?_
    show Steps p.tables e below (T14.setTop (mkF m 55 #[.val (.int p1), .val (.int p2), .val (.int p3), .val (.int p4), .val (.int p5), .val (.ref b6), .unset, .unset, .unset, .unset, .unset] [])) _
    refine XS.aload X14.here hx rfl (hb hby at_55) rfl rfl ?_
    show Steps p.tables e below (T14.setTop (mkF m 57 #[.val (.int p1), .val (.int p2), .val (.int p3), .val (.int p4), .val (.int p5), .val (.ref b6), .unset, .unset, .unset, .unset, .unset] [(.ref b6)])) _
    refine XS.iconst X14.here hx rfl (hb hby at_57) ?_
    show Steps p.tables e below (T14.setTop (mkF m 58 #[.val (.int p1), .val (.int p2), .val (.int p3), .val (.int p4), .val (.int p5), .val (.ref b6), .unset, .unset, .unset, .unset, .unset] [(.int (4 : Int32)), (.ref b6)])) _
    refine XS.iloadN X14.here hx rfl (hb hby at_58) rfl ?_
    show Steps p.tables e below (T14.setTop (mkF m 59 #[.val (.int p1), .val (.int p2), .val (.int p3), .val (.int p4), .val (.int p5), .val (.ref b6), .unset, .unset, .unset, .unset, .unset] [(.int p3), (.int (4 : Int32)), (.ref b6)])) _
    refine XS.iconst X14.here hx rfl (hb hby at_59) ?_
    show Steps p.tables e below (T14.setTop (mkF m 60 #[.val (.int p1), .val (.int p2), .val (.int p3), .val (.int p4), .val (.int p5), .val (.ref b6), .unset, .unset, .unset, .unset, .unset] [(.int (4 : Int32)), (.int p3), (.int (4 : Int32)), (.ref b6)])) _
    refine XS.iloadN X14.here hx rfl (hb hby at_60) rfl ?_
    show Steps p.tables e below (T14.setTop (mkF m 61 #[.val (.int p1), .val (.int p2), .val (.int p3), .val (.int p4), .val (.int p5), .val (.ref b6), .unset, .unset, .unset, .unset, .unset] [(.int p2), (.int (4 : Int32)), (.int p3), (.int (4 : Int32)), (.ref b6)])) _
    refine st15 _ ?_
    show Steps p.tables e below (T15.setTop (mkF m 64 #[.val (.int p1), .val (.int p2), .val (.int p3), .val (.int p4), .val (.int p5), .val (.ref b6), .unset, .unset, .unset, .unset, .unset] [(.int (own_draw p3 (4 : Int32) p2)), (.int (4 : Int32)), (.ref b6)])) _
    refine st16 _ ?_
    show Steps p.tables e below (T16.setTop (mkF m 65 #[.val (.int p1), .val (.int p2), .val (.int p3), .val (.int p4), .val (.int p5), .val (.ref b6), .unset, .unset, .unset, .unset, .unset] [])) _
    refine XS.aload X16.here hx rfl (hb hby at_65) rfl rfl ?_
    show Steps p.tables e below (T16.setTop (mkF m 67 #[.val (.int p1), .val (.int p2), .val (.int p3), .val (.int p4), .val (.int p5), .val (.ref b6), .unset, .unset, .unset, .unset, .unset] [(.ref b6)])) _
    refine XS.iconst X16.here hx rfl (hb hby at_67) ?_
    show Steps p.tables e below (T16.setTop (mkF m 68 #[.val (.int p1), .val (.int p2), .val (.int p3), .val (.int p4), .val (.int p5), .val (.ref b6), .unset, .unset, .unset, .unset, .unset] [(.int (5 : Int32)), (.ref b6)])) _
    refine XS.iloadN X16.here hx rfl (hb hby at_68) rfl ?_
    show Steps p.tables e below (T16.setTop (mkF m 69 #[.val (.int p1), .val (.int p2), .val (.int p3), .val (.int p4), .val (.int p5), .val (.ref b6), .unset, .unset, .unset, .unset, .unset] [(.int p3), (.int (5 : Int32)), (.ref b6)])) _
    refine XS.iconst X16.here hx rfl (hb hby at_69) ?_
    show Steps p.tables e below (T16.setTop (mkF m 70 #[.val (.int p1), .val (.int p2), .val (.int p3), .val (.int p4), .val (.int p5), .val (.ref b6), .unset, .unset, .unset, .unset, .unset] [(.int (5 : Int32)), (.int p3), (.int (5 : Int32)), (.ref b6)])) _
    refine XS.iloadN X16.here hx rfl (hb hby at_70) rfl ?_
    show Steps p.tables e below (T16.setTop (mkF m 71 #[.val (.int p1), .val (.int p2), .val (.int p3), .val (.int p4), .val (.int p5), .val (.ref b6), .unset, .unset, .unset, .unset, .unset] [(.int p2), (.int (5 : Int32)), (.int p3), (.int (5 : Int32)), (.ref b6)])) _
    refine XS.bipush X16.here hx rfl (hb hby at_71) ?_
    show Steps p.tables e below (T16.setTop (mkF m 73 #[.val (.int p1), .val (.int p2), .val (.int p3), .val (.int p4), .val (.int p5), .val (.ref b6), .unset, .unset, .unset, .unset, .unset] [(.int (8 : Int32)), (.int p2), (.int (5 : Int32)), (.int p3), (.int (5 : Int32)), (.ref b6)])) _
    refine XS.ishr X16.here hx rfl (hb hby at_73) rfl ?_
    show Steps p.tables e below (T16.setTop (mkF m 74 #[.val (.int p1), .val (.int p2), .val (.int p3), .val (.int p4), .val (.int p5), .val (.ref b6), .unset, .unset, .unset, .unset, .unset] [(.int (p2 >>> ((8 : Int32) &&& 31))), (.int (5 : Int32)), (.int p3), (.int (5 : Int32)), (.ref b6)])) _
    refine st17 _ ?_
    show Steps p.tables e below (T17.setTop (mkF m 77 #[.val (.int p1), .val (.int p2), .val (.int p3), .val (.int p4), .val (.int p5), .val (.ref b6), .unset, .unset, .unset, .unset, .unset] [(.int (own_draw p3 (5 : Int32) (p2 >>> ((8 : Int32) &&& 31)))), (.int (5 : Int32)), (.ref b6)])) _
    refine st18 _ ?_
    show Steps p.tables e below (T18.setTop (mkF m 78 #[.val (.int p1), .val (.int p2), .val (.int p3), .val (.int p4), .val (.int p5), .val (.ref b6), .unset, .unset, .unset, .unset, .unset] [])) _
    refine XS.iloadN X18.here hx rfl (hb hby at_78) rfl ?_
    show Steps p.tables e below (T18.setTop (mkF m 79 #[.val (.int p1), .val (.int p2), .val (.int p3), .val (.int p4), .val (.int p5), .val (.ref b6), .unset, .unset, .unset, .unset, .unset] [(.int p4)])) _
    refine X18.ldcInt hx hown (mvT hZ (hw _ (List.mem_of_getElem? (i := 5) rfl))) (g := (mkF m 79 #[.val (.int p1), .val (.int p2), .val (.int p3), .val (.int p4), .val (.int p5), .val (.ref b6), .unset, .unset, .unset, .unset, .unset] [(.int p4)])) rfl (hb hby at_79) _ ?_
    show Steps p.tables e below (T18.setTop (mkF m 81 #[.val (.int p1), .val (.int p2), .val (.int p3), .val (.int p4), .val (.int p5), .val (.ref b6), .unset, .unset, .unset, .unset, .unset] [(.int (2147483647 : Int32)), (.int p4)])) _
    refine XS.iand X18.here hx rfl (hb hby at_81) rfl ?_
    show Steps p.tables e below (T18.setTop (mkF m 82 #[.val (.int p1), .val (.int p2), .val (.int p3), .val (.int p4), .val (.int p5), .val (.ref b6), .unset, .unset, .unset, .unset, .unset] [(.int (p4 &&& (2147483647 : Int32)))])) _
    refine XS.bipush X18.here hx rfl (hb hby at_82) ?_
    show Steps p.tables e below (T18.setTop (mkF m 84 #[.val (.int p1), .val (.int p2), .val (.int p3), .val (.int p4), .val (.int p5), .val (.ref b6), .unset, .unset, .unset, .unset, .unset] [(.int (7 : Int32)), (.int (p4 &&& (2147483647 : Int32)))])) _
    refine XS.irem X18.here hx rfl (hb hby at_84) rfl (by decide) ?_
    show Steps p.tables e below (T18.setTop (mkF m 85 #[.val (.int p1), .val (.int p2), .val (.int p3), .val (.int p4), .val (.int p5), .val (.ref b6), .unset, .unset, .unset, .unset, .unset] [(.int (own_m p4))])) _
    refine XS.istore X18.here hx rfl (hb hby at_85) rfl (l' := #[.val (.int p1), .val (.int p2), .val (.int p3), .val (.int p4), .val (.int p5), .val (.ref b6), .val (.int (own_m p4)), .unset, .unset, .unset, .unset]) rfl ?_
    show Steps p.tables e below (T18.setTop (mkF m 87 #[.val (.int p1), .val (.int p2), .val (.int p3), .val (.int p4), .val (.int p5), .val (.ref b6), .val (.int (own_m p4)), .unset, .unset, .unset, .unset] [])) _
    refine XS.iload X18.here hx rfl (hb hby at_87) rfl ?_
    show Steps p.tables e below (T18.setTop (mkF m 89 #[.val (.int p1), .val (.int p2), .val (.int p3), .val (.int p4), .val (.int p5), .val (.ref b6), .val (.int (own_m p4)), .unset, .unset, .unset, .unset] [(.int p5)])) _
    refine X18.ldcInt hx hown (mvT hZ (hw _ (List.mem_of_getElem? (i := 5) rfl))) (g := (mkF m 89 #[.val (.int p1), .val (.int p2), .val (.int p3), .val (.int p4), .val (.int p5), .val (.ref b6), .val (.int (own_m p4)), .unset, .unset, .unset, .unset] [(.int p5)])) rfl (hb hby at_89) _ ?_
    show Steps p.tables e below (T18.setTop (mkF m 91 #[.val (.int p1), .val (.int p2), .val (.int p3), .val (.int p4), .val (.int p5), .val (.ref b6), .val (.int (own_m p4)), .unset, .unset, .unset, .unset] [(.int (2147483647 : Int32)), (.int p5)])) _
    refine XS.iand X18.here hx rfl (hb hby at_91) rfl ?_
    show Steps p.tables e below (T18.setTop (mkF m 92 #[.val (.int p1), .val (.int p2), .val (.int p3), .val (.int p4), .val (.int p5), .val (.ref b6), .val (.int (own_m p4)), .unset, .unset, .unset, .unset] [(.int (p5 &&& (2147483647 : Int32)))])) _
    refine XS.bipush X18.here hx rfl (hb hby at_92) ?_
    show Steps p.tables e below (T18.setTop (mkF m 94 #[.val (.int p1), .val (.int p2), .val (.int p3), .val (.int p4), .val (.int p5), .val (.ref b6), .val (.int (own_m p4)), .unset, .unset, .unset, .unset] [(.int (7 : Int32)), (.int (p5 &&& (2147483647 : Int32)))])) _
    refine XS.irem X18.here hx rfl (hb hby at_94) rfl (by decide) ?_
    show Steps p.tables e below (T18.setTop (mkF m 95 #[.val (.int p1), .val (.int p2), .val (.int p3), .val (.int p4), .val (.int p5), .val (.ref b6), .val (.int (own_m p4)), .unset, .unset, .unset, .unset] [(.int (own_m p5))])) _
    refine XS.istore X18.here hx rfl (hb hby at_95) rfl (l' := #[.val (.int p1), .val (.int p2), .val (.int p3), .val (.int p4), .val (.int p5), .val (.ref b6), .val (.int (own_m p4)), .val (.int (own_m p5)), .unset, .unset, .unset]) rfl ?_
    show Steps p.tables e below (T18.setTop (mkF m 97 #[.val (.int p1), .val (.int p2), .val (.int p3), .val (.int p4), .val (.int p5), .val (.ref b6), .val (.int (own_m p4)), .val (.int (own_m p5)), .unset, .unset, .unset] [])) _
    refine XS.iload X18.here hx rfl (hb hby at_97) rfl ?_
    show Steps p.tables e below (T18.setTop (mkF m 99 #[.val (.int p1), .val (.int p2), .val (.int p3), .val (.int p4), .val (.int p5), .val (.ref b6), .val (.int (own_m p4)), .val (.int (own_m p5)), .unset, .unset, .unset] [(.int (own_m p4))])) _
    refine XS.iload X18.here hx rfl (hb hby at_99) rfl ?_
    show Steps p.tables e below (T18.setTop (mkF m 101 #[.val (.int p1), .val (.int p2), .val (.int p3), .val (.int p4), .val (.int p5), .val (.ref b6), .val (.int (own_m p4)), .val (.int (own_m p5)), .unset, .unset, .unset] [(.int (own_m p5)), (.int (own_m p4))])) _
    refine st19 _ ?_
    show Steps p.tables e below (T19.setTop (mkF m 104 #[.val (.int p1), .val (.int p2), .val (.int p3), .val (.int p4), .val (.int p5), .val (.ref b6), .val (.int (own_m p4)), .val (.int (own_m p5)), .unset, .unset, .unset] [(.int (own_r2 (own_m p4) (own_m p5)))])) _
    refine XS.istore X19.here hx rfl (hb hby at_104) rfl (l' := #[.val (.int p1), .val (.int p2), .val (.int p3), .val (.int p4), .val (.int p5), .val (.ref b6), .val (.int (own_m p4)), .val (.int (own_m p5)), .val (.int (own_r2 (own_m p4) (own_m p5))), .unset, .unset]) rfl ?_
    show Steps p.tables e below (T19.setTop (mkF m 106 #[.val (.int p1), .val (.int p2), .val (.int p3), .val (.int p4), .val (.int p5), .val (.ref b6), .val (.int (own_m p4)), .val (.int (own_m p5)), .val (.int (own_r2 (own_m p4) (own_m p5))), .unset, .unset] [])) _
    refine XS.iload X19.here hx rfl (hb hby at_106) rfl ?_
    show Steps p.tables e below (T19.setTop (mkF m 108 #[.val (.int p1), .val (.int p2), .val (.int p3), .val (.int p4), .val (.int p5), .val (.ref b6), .val (.int (own_m p4)), .val (.int (own_m p5)), .val (.int (own_r2 (own_m p4) (own_m p5))), .unset, .unset] [(.int (own_m p4))])) _
    refine XS.iload X19.here hx rfl (hb hby at_108) rfl ?_
    show Steps p.tables e below (T19.setTop (mkF m 110 #[.val (.int p1), .val (.int p2), .val (.int p3), .val (.int p4), .val (.int p5), .val (.ref b6), .val (.int (own_m p4)), .val (.int (own_m p5)), .val (.int (own_r2 (own_m p4) (own_m p5))), .unset, .unset] [(.int (own_m p5)), (.int (own_m p4))])) _
    refine st20 _ ?_
    show Steps p.tables e below (T20.setTop (mkF m 113 #[.val (.int p1), .val (.int p2), .val (.int p3), .val (.int p4), .val (.int p5), .val (.ref b6), .val (.int (own_m p4)), .val (.int (own_m p5)), .val (.int (own_r2 (own_m p4) (own_m p5))), .unset, .unset] [(.int (own_r3 (own_m p4) (own_m p5)))])) _
    refine XS.istore X20.here hx rfl (hb hby at_113) rfl (l' := #[.val (.int p1), .val (.int p2), .val (.int p3), .val (.int p4), .val (.int p5), .val (.ref b6), .val (.int (own_m p4)), .val (.int (own_m p5)), .val (.int (own_r2 (own_m p4) (own_m p5))), .val (.int (own_r3 (own_m p4) (own_m p5))), .unset]) rfl ?_
    show Steps p.tables e below (T20.setTop (mkF m 115 #[.val (.int p1), .val (.int p2), .val (.int p3), .val (.int p4), .val (.int p5), .val (.ref b6), .val (.int (own_m p4)), .val (.int (own_m p5)), .val (.int (own_r2 (own_m p4) (own_m p5))), .val (.int (own_r3 (own_m p4) (own_m p5))), .unset] [])) _
    refine XS.iload X20.here hx rfl (hb hby at_115) rfl ?_
    show Steps p.tables e below (T20.setTop (mkF m 117 #[.val (.int p1), .val (.int p2), .val (.int p3), .val (.int p4), .val (.int p5), .val (.ref b6), .val (.int (own_m p4)), .val (.int (own_m p5)), .val (.int (own_r2 (own_m p4) (own_m p5))), .val (.int (own_r3 (own_m p4) (own_m p5))), .unset] [(.int (own_r3 (own_m p4) (own_m p5)))])) _
    refine XS.istore X20.here hx rfl (hb hby at_117) rfl (l' := #[.val (.int p1), .val (.int p2), .val (.int p3), .val (.int p4), .val (.int p5), .val (.ref b6), .val (.int (own_m p4)), .val (.int (own_m p5)), .val (.int (own_r2 (own_m p4) (own_m p5))), .val (.int (own_r3 (own_m p4) (own_m p5))), .val (.int (own_r3 (own_m p4) (own_m p5)))]) rfl ?_
    show Steps p.tables e below (T20.setTop (mkF m 119 #[.val (.int p1), .val (.int p2), .val (.int p3), .val (.int p4), .val (.int p5), .val (.ref b6), .val (.int (own_m p4)), .val (.int (own_m p5)), .val (.int (own_r2 (own_m p4) (own_m p5))), .val (.int (own_r3 (own_m p4) (own_m p5))), .val (.int (own_r3 (own_m p4) (own_m p5)))] [])) _
    refine XS.aload X20.here hx rfl (hb hby at_119) rfl rfl ?_
    show Steps p.tables e below (T20.setTop (mkF m 121 #[.val (.int p1), .val (.int p2), .val (.int p3), .val (.int p4), .val (.int p5), .val (.ref b6), .val (.int (own_m p4)), .val (.int (own_m p5)), .val (.int (own_r2 (own_m p4) (own_m p5))), .val (.int (own_r3 (own_m p4) (own_m p5))), .val (.int (own_r3 (own_m p4) (own_m p5)))] [(.ref b6)])) _
    refine XS.iconst X20.here hx rfl (hb hby at_121) ?_
    show Steps p.tables e below (T20.setTop (mkF m 122 #[.val (.int p1), .val (.int p2), .val (.int p3), .val (.int p4), .val (.int p5), .val (.ref b6), .val (.int (own_m p4)), .val (.int (own_m p5)), .val (.int (own_r2 (own_m p4) (own_m p5))), .val (.int (own_r3 (own_m p4) (own_m p5))), .val (.int (own_r3 (own_m p4) (own_m p5)))] [(.int (5 : Int32)), (.ref b6)])) _
    refine XS.iload X20.here hx rfl (hb hby at_122) rfl ?_
    show Steps p.tables e below (T20.setTop (mkF m 124 #[.val (.int p1), .val (.int p2), .val (.int p3), .val (.int p4), .val (.int p5), .val (.ref b6), .val (.int (own_m p4)), .val (.int (own_m p5)), .val (.int (own_r2 (own_m p4) (own_m p5))), .val (.int (own_r3 (own_m p4) (own_m p5))), .val (.int (own_r3 (own_m p4) (own_m p5)))] [(.int (own_r2 (own_m p4) (own_m p5))), (.int (5 : Int32)), (.ref b6)])) _
    refine XS.iload X20.here hx rfl (hb hby at_124) rfl ?_
    show Steps p.tables e below (T20.setTop (mkF m 126 #[.val (.int p1), .val (.int p2), .val (.int p3), .val (.int p4), .val (.int p5), .val (.ref b6), .val (.int (own_m p4)), .val (.int (own_m p5)), .val (.int (own_r2 (own_m p4) (own_m p5))), .val (.int (own_r3 (own_m p4) (own_m p5))), .val (.int (own_r3 (own_m p4) (own_m p5)))] [(.int (own_r3 (own_m p4) (own_m p5))), (.int (own_r2 (own_m p4) (own_m p5))), (.int (5 : Int32)), (.ref b6)])) _
    refine XS.iload X20.here hx rfl (hb hby at_126) rfl ?_
    show Steps p.tables e below (T20.setTop (mkF m 128 #[.val (.int p1), .val (.int p2), .val (.int p3), .val (.int p4), .val (.int p5), .val (.ref b6), .val (.int (own_m p4)), .val (.int (own_m p5)), .val (.int (own_r2 (own_m p4) (own_m p5))), .val (.int (own_r3 (own_m p4) (own_m p5))), .val (.int (own_r3 (own_m p4) (own_m p5)))] [(.int (own_r3 (own_m p4) (own_m p5))), (.int (own_r3 (own_m p4) (own_m p5))), (.int (own_r2 (own_m p4) (own_m p5))), (.int (5 : Int32)), (.ref b6)])) _
    refine st21 _ ?_
    show Steps p.tables e below (T21.setTop (mkF m 131 #[.val (.int p1), .val (.int p2), .val (.int p3), .val (.int p4), .val (.int p5), .val (.ref b6), .val (.int (own_m p4)), .val (.int (own_m p5)), .val (.int (own_r2 (own_m p4) (own_m p5))), .val (.int (own_r3 (own_m p4) (own_m p5))), .val (.int (own_r3 (own_m p4) (own_m p5)))] [(.int (own_pk (own_x5 p1 p2 p3) (5 : Int32) (own_r2 (own_m p4) (own_m p5)) (own_r3 (own_m p4) (own_m p5)) (own_r3 (own_m p4) (own_m p5))))])) _
    refine XS.istore X21.here hx rfl (hb hby at_131) rfl (l' := #[.val (.int p1), .val (.int p2), .val (.int p3), .val (.int p4), .val (.int p5), .val (.ref b6), .val (.int (own_m p4)), .val (.int (own_m p5)), .val (.int (own_r2 (own_m p4) (own_m p5))), .val (.int (own_r3 (own_m p4) (own_m p5))), .val (.int (own_pk (own_x5 p1 p2 p3) (5 : Int32) (own_r2 (own_m p4) (own_m p5)) (own_r3 (own_m p4) (own_m p5)) (own_r3 (own_m p4) (own_m p5))))]) rfl ?_
    show Steps p.tables e below (T21.setTop (mkF m 133 #[.val (.int p1), .val (.int p2), .val (.int p3), .val (.int p4), .val (.int p5), .val (.ref b6), .val (.int (own_m p4)), .val (.int (own_m p5)), .val (.int (own_r2 (own_m p4) (own_m p5))), .val (.int (own_r3 (own_m p4) (own_m p5))), .val (.int (own_pk (own_x5 p1 p2 p3) (5 : Int32) (own_r2 (own_m p4) (own_m p5)) (own_r3 (own_m p4) (own_m p5)) (own_r3 (own_m p4) (own_m p5))))] [])) _
    refine XS.aload X21.here hx rfl (hb hby at_133) rfl rfl ?_
    show Steps p.tables e below (T21.setTop (mkF m 135 #[.val (.int p1), .val (.int p2), .val (.int p3), .val (.int p4), .val (.int p5), .val (.ref b6), .val (.int (own_m p4)), .val (.int (own_m p5)), .val (.int (own_r2 (own_m p4) (own_m p5))), .val (.int (own_r3 (own_m p4) (own_m p5))), .val (.int (own_pk (own_x5 p1 p2 p3) (5 : Int32) (own_r2 (own_m p4) (own_m p5)) (own_r3 (own_m p4) (own_m p5)) (own_r3 (own_m p4) (own_m p5))))] [(.ref b6)])) _
    refine XS.iconst X21.here hx rfl (hb hby at_135) ?_
    show Steps p.tables e below (T21.setTop (mkF m 136 #[.val (.int p1), .val (.int p2), .val (.int p3), .val (.int p4), .val (.int p5), .val (.ref b6), .val (.int (own_m p4)), .val (.int (own_m p5)), .val (.int (own_r2 (own_m p4) (own_m p5))), .val (.int (own_r3 (own_m p4) (own_m p5))), .val (.int (own_pk (own_x5 p1 p2 p3) (5 : Int32) (own_r2 (own_m p4) (own_m p5)) (own_r3 (own_m p4) (own_m p5)) (own_r3 (own_m p4) (own_m p5))))] [(.int (4 : Int32)), (.ref b6)])) _
    refine XS.iload X21.here hx rfl (hb hby at_136) rfl ?_
    show Steps p.tables e below (T21.setTop (mkF m 138 #[.val (.int p1), .val (.int p2), .val (.int p3), .val (.int p4), .val (.int p5), .val (.ref b6), .val (.int (own_m p4)), .val (.int (own_m p5)), .val (.int (own_r2 (own_m p4) (own_m p5))), .val (.int (own_r3 (own_m p4) (own_m p5))), .val (.int (own_pk (own_x5 p1 p2 p3) (5 : Int32) (own_r2 (own_m p4) (own_m p5)) (own_r3 (own_m p4) (own_m p5)) (own_r3 (own_m p4) (own_m p5))))] [(.int (own_r2 (own_m p4) (own_m p5))), (.int (4 : Int32)), (.ref b6)])) _
    refine XS.iload X21.here hx rfl (hb hby at_138) rfl ?_
    show Steps p.tables e below (T21.setTop (mkF m 140 #[.val (.int p1), .val (.int p2), .val (.int p3), .val (.int p4), .val (.int p5), .val (.ref b6), .val (.int (own_m p4)), .val (.int (own_m p5)), .val (.int (own_r2 (own_m p4) (own_m p5))), .val (.int (own_r3 (own_m p4) (own_m p5))), .val (.int (own_pk (own_x5 p1 p2 p3) (5 : Int32) (own_r2 (own_m p4) (own_m p5)) (own_r3 (own_m p4) (own_m p5)) (own_r3 (own_m p4) (own_m p5))))] [(.int (own_r3 (own_m p4) (own_m p5))), (.int (own_r2 (own_m p4) (own_m p5))), (.int (4 : Int32)), (.ref b6)])) _
    refine XS.iload X21.here hx rfl (hb hby at_140) rfl ?_
    show Steps p.tables e below (T21.setTop (mkF m 142 #[.val (.int p1), .val (.int p2), .val (.int p3), .val (.int p4), .val (.int p5), .val (.ref b6), .val (.int (own_m p4)), .val (.int (own_m p5)), .val (.int (own_r2 (own_m p4) (own_m p5))), .val (.int (own_r3 (own_m p4) (own_m p5))), .val (.int (own_pk (own_x5 p1 p2 p3) (5 : Int32) (own_r2 (own_m p4) (own_m p5)) (own_r3 (own_m p4) (own_m p5)) (own_r3 (own_m p4) (own_m p5))))] [(.int (own_pk (own_x5 p1 p2 p3) (5 : Int32) (own_r2 (own_m p4) (own_m p5)) (own_r3 (own_m p4) (own_m p5)) (own_r3 (own_m p4) (own_m p5)))), (.int (own_r3 (own_m p4) (own_m p5))), (.int (own_r2 (own_m p4) (own_m p5))), (.int (4 : Int32)), (.ref b6)])) _
    refine st22 _ ?_
    show Steps p.tables e below (T22.setTop (mkF m 145 #[.val (.int p1), .val (.int p2), .val (.int p3), .val (.int p4), .val (.int p5), .val (.ref b6), .val (.int (own_m p4)), .val (.int (own_m p5)), .val (.int (own_r2 (own_m p4) (own_m p5))), .val (.int (own_r3 (own_m p4) (own_m p5))), .val (.int (own_pk (own_x5 p1 p2 p3) (5 : Int32) (own_r2 (own_m p4) (own_m p5)) (own_r3 (own_m p4) (own_m p5)) (own_r3 (own_m p4) (own_m p5))))] [(.int (own_pk (own_x4 p1 p2 p3) (4 : Int32) (own_r2 (own_m p4) (own_m p5)) (own_r3 (own_m p4) (own_m p5)) (own_pk (own_x5 p1 p2 p3) (5 : Int32) (own_r2 (own_m p4) (own_m p5)) (own_r3 (own_m p4) (own_m p5)) (own_r3 (own_m p4) (own_m p5)))))])) _
    refine XS.istore X22.here hx rfl (hb hby at_145) rfl (l' := #[.val (.int p1), .val (.int p2), .val (.int p3), .val (.int p4), .val (.int p5), .val (.ref b6), .val (.int (own_m p4)), .val (.int (own_m p5)), .val (.int (own_r2 (own_m p4) (own_m p5))), .val (.int (own_r3 (own_m p4) (own_m p5))), .val (.int (own_pk (own_x4 p1 p2 p3) (4 : Int32) (own_r2 (own_m p4) (own_m p5)) (own_r3 (own_m p4) (own_m p5)) (own_pk (own_x5 p1 p2 p3) (5 : Int32) (own_r2 (own_m p4) (own_m p5)) (own_r3 (own_m p4) (own_m p5)) (own_r3 (own_m p4) (own_m p5)))))]) rfl ?_
    show Steps p.tables e below (T22.setTop (mkF m 147 #[.val (.int p1), .val (.int p2), .val (.int p3), .val (.int p4), .val (.int p5), .val (.ref b6), .val (.int (own_m p4)), .val (.int (own_m p5)), .val (.int (own_r2 (own_m p4) (own_m p5))), .val (.int (own_r3 (own_m p4) (own_m p5))), .val (.int (own_pk (own_x4 p1 p2 p3) (4 : Int32) (own_r2 (own_m p4) (own_m p5)) (own_r3 (own_m p4) (own_m p5)) (own_pk (own_x5 p1 p2 p3) (5 : Int32) (own_r2 (own_m p4) (own_m p5)) (own_r3 (own_m p4) (own_m p5)) (own_r3 (own_m p4) (own_m p5)))))] [])) _
    refine XS.aload X22.here hx rfl (hb hby at_147) rfl rfl ?_
    show Steps p.tables e below (T22.setTop (mkF m 149 #[.val (.int p1), .val (.int p2), .val (.int p3), .val (.int p4), .val (.int p5), .val (.ref b6), .val (.int (own_m p4)), .val (.int (own_m p5)), .val (.int (own_r2 (own_m p4) (own_m p5))), .val (.int (own_r3 (own_m p4) (own_m p5))), .val (.int (own_pk (own_x4 p1 p2 p3) (4 : Int32) (own_r2 (own_m p4) (own_m p5)) (own_r3 (own_m p4) (own_m p5)) (own_pk (own_x5 p1 p2 p3) (5 : Int32) (own_r2 (own_m p4) (own_m p5)) (own_r3 (own_m p4) (own_m p5)) (own_r3 (own_m p4) (own_m p5)))))] [(.ref b6)])) _
    refine XS.iconst X22.here hx rfl (hb hby at_149) ?_
    show Steps p.tables e below (T22.setTop (mkF m 150 #[.val (.int p1), .val (.int p2), .val (.int p3), .val (.int p4), .val (.int p5), .val (.ref b6), .val (.int (own_m p4)), .val (.int (own_m p5)), .val (.int (own_r2 (own_m p4) (own_m p5))), .val (.int (own_r3 (own_m p4) (own_m p5))), .val (.int (own_pk (own_x4 p1 p2 p3) (4 : Int32) (own_r2 (own_m p4) (own_m p5)) (own_r3 (own_m p4) (own_m p5)) (own_pk (own_x5 p1 p2 p3) (5 : Int32) (own_r2 (own_m p4) (own_m p5)) (own_r3 (own_m p4) (own_m p5)) (own_r3 (own_m p4) (own_m p5)))))] [(.int (3 : Int32)), (.ref b6)])) _
    refine XS.iload X22.here hx rfl (hb hby at_150) rfl ?_
    show Steps p.tables e below (T22.setTop (mkF m 152 #[.val (.int p1), .val (.int p2), .val (.int p3), .val (.int p4), .val (.int p5), .val (.ref b6), .val (.int (own_m p4)), .val (.int (own_m p5)), .val (.int (own_r2 (own_m p4) (own_m p5))), .val (.int (own_r3 (own_m p4) (own_m p5))), .val (.int (own_pk (own_x4 p1 p2 p3) (4 : Int32) (own_r2 (own_m p4) (own_m p5)) (own_r3 (own_m p4) (own_m p5)) (own_pk (own_x5 p1 p2 p3) (5 : Int32) (own_r2 (own_m p4) (own_m p5)) (own_r3 (own_m p4) (own_m p5)) (own_r3 (own_m p4) (own_m p5)))))] [(.int (own_r2 (own_m p4) (own_m p5))), (.int (3 : Int32)), (.ref b6)])) _
    refine XS.iload X22.here hx rfl (hb hby at_152) rfl ?_
    show Steps p.tables e below (T22.setTop (mkF m 154 #[.val (.int p1), .val (.int p2), .val (.int p3), .val (.int p4), .val (.int p5), .val (.ref b6), .val (.int (own_m p4)), .val (.int (own_m p5)), .val (.int (own_r2 (own_m p4) (own_m p5))), .val (.int (own_r3 (own_m p4) (own_m p5))), .val (.int (own_pk (own_x4 p1 p2 p3) (4 : Int32) (own_r2 (own_m p4) (own_m p5)) (own_r3 (own_m p4) (own_m p5)) (own_pk (own_x5 p1 p2 p3) (5 : Int32) (own_r2 (own_m p4) (own_m p5)) (own_r3 (own_m p4) (own_m p5)) (own_r3 (own_m p4) (own_m p5)))))] [(.int (own_r3 (own_m p4) (own_m p5))), (.int (own_r2 (own_m p4) (own_m p5))), (.int (3 : Int32)), (.ref b6)])) _
    refine XS.iload X22.here hx rfl (hb hby at_154) rfl ?_
    show Steps p.tables e below (T22.setTop (mkF m 156 #[.val (.int p1), .val (.int p2), .val (.int p3), .val (.int p4), .val (.int p5), .val (.ref b6), .val (.int (own_m p4)), .val (.int (own_m p5)), .val (.int (own_r2 (own_m p4) (own_m p5))), .val (.int (own_r3 (own_m p4) (own_m p5))), .val (.int (own_pk (own_x4 p1 p2 p3) (4 : Int32) (own_r2 (own_m p4) (own_m p5)) (own_r3 (own_m p4) (own_m p5)) (own_pk (own_x5 p1 p2 p3) (5 : Int32) (own_r2 (own_m p4) (own_m p5)) (own_r3 (own_m p4) (own_m p5)) (own_r3 (own_m p4) (own_m p5)))))] [(.int (own_pk (own_x4 p1 p2 p3) (4 : Int32) (own_r2 (own_m p4) (own_m p5)) (own_r3 (own_m p4) (own_m p5)) (own_pk (own_x5 p1 p2 p3) (5 : Int32) (own_r2 (own_m p4) (own_m p5)) (own_r3 (own_m p4) (own_m p5)) (own_r3 (own_m p4) (own_m p5))))), (.int (own_r3 (own_m p4) (own_m p5))), (.int (own_r2 (own_m p4) (own_m p5))), (.int (3 : Int32)), (.ref b6)])) _
    refine st23 _ ?_
    show Steps p.tables e below (T23.setTop (mkF m 159 #[.val (.int p1), .val (.int p2), .val (.int p3), .val (.int p4), .val (.int p5), .val (.ref b6), .val (.int (own_m p4)), .val (.int (own_m p5)), .val (.int (own_r2 (own_m p4) (own_m p5))), .val (.int (own_r3 (own_m p4) (own_m p5))), .val (.int (own_pk (own_x4 p1 p2 p3) (4 : Int32) (own_r2 (own_m p4) (own_m p5)) (own_r3 (own_m p4) (own_m p5)) (own_pk (own_x5 p1 p2 p3) (5 : Int32) (own_r2 (own_m p4) (own_m p5)) (own_r3 (own_m p4) (own_m p5)) (own_r3 (own_m p4) (own_m p5)))))] [(.int (own_pk (own_x3 p1 p2 p3) (3 : Int32) (own_r2 (own_m p4) (own_m p5)) (own_r3 (own_m p4) (own_m p5)) (own_pk (own_x4 p1 p2 p3) (4 : Int32) (own_r2 (own_m p4) (own_m p5)) (own_r3 (own_m p4) (own_m p5)) (own_pk (own_x5 p1 p2 p3) (5 : Int32) (own_r2 (own_m p4) (own_m p5)) (own_r3 (own_m p4) (own_m p5)) (own_r3 (own_m p4) (own_m p5))))))])) _
    refine XS.istore X23.here hx rfl (hb hby at_159) rfl (l' := #[.val (.int p1), .val (.int p2), .val (.int p3), .val (.int p4), .val (.int p5), .val (.ref b6), .val (.int (own_m p4)), .val (.int (own_m p5)), .val (.int (own_r2 (own_m p4) (own_m p5))), .val (.int (own_r3 (own_m p4) (own_m p5))), .val (.int (own_pk (own_x3 p1 p2 p3) (3 : Int32) (own_r2 (own_m p4) (own_m p5)) (own_r3 (own_m p4) (own_m p5)) (own_pk (own_x4 p1 p2 p3) (4 : Int32) (own_r2 (own_m p4) (own_m p5)) (own_r3 (own_m p4) (own_m p5)) (own_pk (own_x5 p1 p2 p3) (5 : Int32) (own_r2 (own_m p4) (own_m p5)) (own_r3 (own_m p4) (own_m p5)) (own_r3 (own_m p4) (own_m p5))))))]) rfl ?_
    show Steps p.tables e below (T23.setTop (mkF m 161 #[.val (.int p1), .val (.int p2), .val (.int p3), .val (.int p4), .val (.int p5), .val (.ref b6), .val (.int (own_m p4)), .val (.int (own_m p5)), .val (.int (own_r2 (own_m p4) (own_m p5))), .val (.int (own_r3 (own_m p4) (own_m p5))), .val (.int (own_pk (own_x3 p1 p2 p3) (3 : Int32) (own_r2 (own_m p4) (own_m p5)) (own_r3 (own_m p4) (own_m p5)) (own_pk (own_x4 p1 p2 p3) (4 : Int32) (own_r2 (own_m p4) (own_m p5)) (own_r3 (own_m p4) (own_m p5)) (own_pk (own_x5 p1 p2 p3) (5 : Int32) (own_r2 (own_m p4) (own_m p5)) (own_r3 (own_m p4) (own_m p5)) (own_r3 (own_m p4) (own_m p5))))))] [])) _
    refine XS.aload X23.here hx rfl (hb hby at_161) rfl rfl ?_
    show Steps p.tables e below (T23.setTop (mkF m 163 #[.val (.int p1), .val (.int p2), .val (.int p3), .val (.int p4), .val (.int p5), .val (.ref b6), .val (.int (own_m p4)), .val (.int (own_m p5)), .val (.int (own_r2 (own_m p4) (own_m p5))), .val (.int (own_r3 (own_m p4) (own_m p5))), .val (.int (own_pk (own_x3 p1 p2 p3) (3 : Int32) (own_r2 (own_m p4) (own_m p5)) (own_r3 (own_m p4) (own_m p5)) (own_pk (own_x4 p1 p2 p3) (4 : Int32) (own_r2 (own_m p4) (own_m p5)) (own_r3 (own_m p4) (own_m p5)) (own_pk (own_x5 p1 p2 p3) (5 : Int32) (own_r2 (own_m p4) (own_m p5)) (own_r3 (own_m p4) (own_m p5)) (own_r3 (own_m p4) (own_m p5))))))] [(.ref b6)])) _
    refine XS.iconst X23.here hx rfl (hb hby at_163) ?_
    show Steps p.tables e below (T23.setTop (mkF m 164 #[.val (.int p1), .val (.int p2), .val (.int p3), .val (.int p4), .val (.int p5), .val (.ref b6), .val (.int (own_m p4)), .val (.int (own_m p5)), .val (.int (own_r2 (own_m p4) (own_m p5))), .val (.int (own_r3 (own_m p4) (own_m p5))), .val (.int (own_pk (own_x3 p1 p2 p3) (3 : Int32) (own_r2 (own_m p4) (own_m p5)) (own_r3 (own_m p4) (own_m p5)) (own_pk (own_x4 p1 p2 p3) (4 : Int32) (own_r2 (own_m p4) (own_m p5)) (own_r3 (own_m p4) (own_m p5)) (own_pk (own_x5 p1 p2 p3) (5 : Int32) (own_r2 (own_m p4) (own_m p5)) (own_r3 (own_m p4) (own_m p5)) (own_r3 (own_m p4) (own_m p5))))))] [(.int (2 : Int32)), (.ref b6)])) _
    refine XS.iload X23.here hx rfl (hb hby at_164) rfl ?_
    show Steps p.tables e below (T23.setTop (mkF m 166 #[.val (.int p1), .val (.int p2), .val (.int p3), .val (.int p4), .val (.int p5), .val (.ref b6), .val (.int (own_m p4)), .val (.int (own_m p5)), .val (.int (own_r2 (own_m p4) (own_m p5))), .val (.int (own_r3 (own_m p4) (own_m p5))), .val (.int (own_pk (own_x3 p1 p2 p3) (3 : Int32) (own_r2 (own_m p4) (own_m p5)) (own_r3 (own_m p4) (own_m p5)) (own_pk (own_x4 p1 p2 p3) (4 : Int32) (own_r2 (own_m p4) (own_m p5)) (own_r3 (own_m p4) (own_m p5)) (own_pk (own_x5 p1 p2 p3) (5 : Int32) (own_r2 (own_m p4) (own_m p5)) (own_r3 (own_m p4) (own_m p5)) (own_r3 (own_m p4) (own_m p5))))))] [(.int (own_r2 (own_m p4) (own_m p5))), (.int (2 : Int32)), (.ref b6)])) _
    refine XS.iload X23.here hx rfl (hb hby at_166) rfl ?_
    show Steps p.tables e below (T23.setTop (mkF m 168 #[.val (.int p1), .val (.int p2), .val (.int p3), .val (.int p4), .val (.int p5), .val (.ref b6), .val (.int (own_m p4)), .val (.int (own_m p5)), .val (.int (own_r2 (own_m p4) (own_m p5))), .val (.int (own_r3 (own_m p4) (own_m p5))), .val (.int (own_pk (own_x3 p1 p2 p3) (3 : Int32) (own_r2 (own_m p4) (own_m p5)) (own_r3 (own_m p4) (own_m p5)) (own_pk (own_x4 p1 p2 p3) (4 : Int32) (own_r2 (own_m p4) (own_m p5)) (own_r3 (own_m p4) (own_m p5)) (own_pk (own_x5 p1 p2 p3) (5 : Int32) (own_r2 (own_m p4) (own_m p5)) (own_r3 (own_m p4) (own_m p5)) (own_r3 (own_m p4) (own_m p5))))))] [(.int (own_r3 (own_m p4) (own_m p5))), (.int (own_r2 (own_m p4) (own_m p5))), (.int (2 : Int32)), (.ref b6)])) _
    refine XS.iload X23.here hx rfl (hb hby at_168) rfl ?_
    show Steps p.tables e below (T23.setTop (mkF m 170 #[.val (.int p1), .val (.int p2), .val (.int p3), .val (.int p4), .val (.int p5), .val (.ref b6), .val (.int (own_m p4)), .val (.int (own_m p5)), .val (.int (own_r2 (own_m p4) (own_m p5))), .val (.int (own_r3 (own_m p4) (own_m p5))), .val (.int (own_pk (own_x3 p1 p2 p3) (3 : Int32) (own_r2 (own_m p4) (own_m p5)) (own_r3 (own_m p4) (own_m p5)) (own_pk (own_x4 p1 p2 p3) (4 : Int32) (own_r2 (own_m p4) (own_m p5)) (own_r3 (own_m p4) (own_m p5)) (own_pk (own_x5 p1 p2 p3) (5 : Int32) (own_r2 (own_m p4) (own_m p5)) (own_r3 (own_m p4) (own_m p5)) (own_r3 (own_m p4) (own_m p5))))))] [(.int (own_pk (own_x3 p1 p2 p3) (3 : Int32) (own_r2 (own_m p4) (own_m p5)) (own_r3 (own_m p4) (own_m p5)) (own_pk (own_x4 p1 p2 p3) (4 : Int32) (own_r2 (own_m p4) (own_m p5)) (own_r3 (own_m p4) (own_m p5)) (own_pk (own_x5 p1 p2 p3) (5 : Int32) (own_r2 (own_m p4) (own_m p5)) (own_r3 (own_m p4) (own_m p5)) (own_r3 (own_m p4) (own_m p5)))))), (.int (own_r3 (own_m p4) (own_m p5))), (.int (own_r2 (own_m p4) (own_m p5))), (.int (2 : Int32)), (.ref b6)])) _
    refine st24 _ ?_
    show Steps p.tables e below (T24.setTop (mkF m 173 #[.val (.int p1), .val (.int p2), .val (.int p3), .val (.int p4), .val (.int p5), .val (.ref b6), .val (.int (own_m p4)), .val (.int (own_m p5)), .val (.int (own_r2 (own_m p4) (own_m p5))), .val (.int (own_r3 (own_m p4) (own_m p5))), .val (.int (own_pk (own_x3 p1 p2 p3) (3 : Int32) (own_r2 (own_m p4) (own_m p5)) (own_r3 (own_m p4) (own_m p5)) (own_pk (own_x4 p1 p2 p3) (4 : Int32) (own_r2 (own_m p4) (own_m p5)) (own_r3 (own_m p4) (own_m p5)) (own_pk (own_x5 p1 p2 p3) (5 : Int32) (own_r2 (own_m p4) (own_m p5)) (own_r3 (own_m p4) (own_m p5)) (own_r3 (own_m p4) (own_m p5))))))] [(.int (own_pk (own_x2 p1 p2 p3) (2 : Int32) (own_r2 (own_m p4) (own_m p5)) (own_r3 (own_m p4) (own_m p5)) (own_pk (own_x3 p1 p2 p3) (3 : Int32) (own_r2 (own_m p4) (own_m p5)) (own_r3 (own_m p4) (own_m p5)) (own_pk (own_x4 p1 p2 p3) (4 : Int32) (own_r2 (own_m p4) (own_m p5)) (own_r3 (own_m p4) (own_m p5)) (own_pk (own_x5 p1 p2 p3) (5 : Int32) (own_r2 (own_m p4) (own_m p5)) (own_r3 (own_m p4) (own_m p5)) (own_r3 (own_m p4) (own_m p5)))))))])) _
    refine XS.istore X24.here hx rfl (hb hby at_173) rfl (l' := #[.val (.int p1), .val (.int p2), .val (.int p3), .val (.int p4), .val (.int p5), .val (.ref b6), .val (.int (own_m p4)), .val (.int (own_m p5)), .val (.int (own_r2 (own_m p4) (own_m p5))), .val (.int (own_r3 (own_m p4) (own_m p5))), .val (.int (own_pk (own_x2 p1 p2 p3) (2 : Int32) (own_r2 (own_m p4) (own_m p5)) (own_r3 (own_m p4) (own_m p5)) (own_pk (own_x3 p1 p2 p3) (3 : Int32) (own_r2 (own_m p4) (own_m p5)) (own_r3 (own_m p4) (own_m p5)) (own_pk (own_x4 p1 p2 p3) (4 : Int32) (own_r2 (own_m p4) (own_m p5)) (own_r3 (own_m p4) (own_m p5)) (own_pk (own_x5 p1 p2 p3) (5 : Int32) (own_r2 (own_m p4) (own_m p5)) (own_r3 (own_m p4) (own_m p5)) (own_r3 (own_m p4) (own_m p5)))))))]) rfl ?_
    show Steps p.tables e below (T24.setTop (mkF m 175 #[.val (.int p1), .val (.int p2), .val (.int p3), .val (.int p4), .val (.int p5), .val (.ref b6), .val (.int (own_m p4)), .val (.int (own_m p5)), .val (.int (own_r2 (own_m p4) (own_m p5))), .val (.int (own_r3 (own_m p4) (own_m p5))), .val (.int (own_pk (own_x2 p1 p2 p3) (2 : Int32) (own_r2 (own_m p4) (own_m p5)) (own_r3 (own_m p4) (own_m p5)) (own_pk (own_x3 p1 p2 p3) (3 : Int32) (own_r2 (own_m p4) (own_m p5)) (own_r3 (own_m p4) (own_m p5)) (own_pk (own_x4 p1 p2 p3) (4 : Int32) (own_r2 (own_m p4) (own_m p5)) (own_r3 (own_m p4) (own_m p5)) (own_pk (own_x5 p1 p2 p3) (5 : Int32) (own_r2 (own_m p4) (own_m p5)) (own_r3 (own_m p4) (own_m p5)) (own_r3 (own_m p4) (own_m p5)))))))] [])) _
    refine XS.aload X24.here hx rfl (hb hby at_175) rfl rfl ?_
    show Steps p.tables e below (T24.setTop (mkF m 177 #[.val (.int p1), .val (.int p2), .val (.int p3), .val (.int p4), .val (.int p5), .val (.ref b6), .val (.int (own_m p4)), .val (.int (own_m p5)), .val (.int (own_r2 (own_m p4) (own_m p5))), .val (.int (own_r3 (own_m p4) (own_m p5))), .val (.int (own_pk (own_x2 p1 p2 p3) (2 : Int32) (own_r2 (own_m p4) (own_m p5)) (own_r3 (own_m p4) (own_m p5)) (own_pk (own_x3 p1 p2 p3) (3 : Int32) (own_r2 (own_m p4) (own_m p5)) (own_r3 (own_m p4) (own_m p5)) (own_pk (own_x4 p1 p2 p3) (4 : Int32) (own_r2 (own_m p4) (own_m p5)) (own_r3 (own_m p4) (own_m p5)) (own_pk (own_x5 p1 p2 p3) (5 : Int32) (own_r2 (own_m p4) (own_m p5)) (own_r3 (own_m p4) (own_m p5)) (own_r3 (own_m p4) (own_m p5)))))))] [(.ref b6)])) _
    refine XS.iconst X24.here hx rfl (hb hby at_177) ?_
    show Steps p.tables e below (T24.setTop (mkF m 178 #[.val (.int p1), .val (.int p2), .val (.int p3), .val (.int p4), .val (.int p5), .val (.ref b6), .val (.int (own_m p4)), .val (.int (own_m p5)), .val (.int (own_r2 (own_m p4) (own_m p5))), .val (.int (own_r3 (own_m p4) (own_m p5))), .val (.int (own_pk (own_x2 p1 p2 p3) (2 : Int32) (own_r2 (own_m p4) (own_m p5)) (own_r3 (own_m p4) (own_m p5)) (own_pk (own_x3 p1 p2 p3) (3 : Int32) (own_r2 (own_m p4) (own_m p5)) (own_r3 (own_m p4) (own_m p5)) (own_pk (own_x4 p1 p2 p3) (4 : Int32) (own_r2 (own_m p4) (own_m p5)) (own_r3 (own_m p4) (own_m p5)) (own_pk (own_x5 p1 p2 p3) (5 : Int32) (own_r2 (own_m p4) (own_m p5)) (own_r3 (own_m p4) (own_m p5)) (own_r3 (own_m p4) (own_m p5)))))))] [(.int (1 : Int32)), (.ref b6)])) _
    refine XS.iload X24.here hx rfl (hb hby at_178) rfl ?_
    show Steps p.tables e below (T24.setTop (mkF m 180 #[.val (.int p1), .val (.int p2), .val (.int p3), .val (.int p4), .val (.int p5), .val (.ref b6), .val (.int (own_m p4)), .val (.int (own_m p5)), .val (.int (own_r2 (own_m p4) (own_m p5))), .val (.int (own_r3 (own_m p4) (own_m p5))), .val (.int (own_pk (own_x2 p1 p2 p3) (2 : Int32) (own_r2 (own_m p4) (own_m p5)) (own_r3 (own_m p4) (own_m p5)) (own_pk (own_x3 p1 p2 p3) (3 : Int32) (own_r2 (own_m p4) (own_m p5)) (own_r3 (own_m p4) (own_m p5)) (own_pk (own_x4 p1 p2 p3) (4 : Int32) (own_r2 (own_m p4) (own_m p5)) (own_r3 (own_m p4) (own_m p5)) (own_pk (own_x5 p1 p2 p3) (5 : Int32) (own_r2 (own_m p4) (own_m p5)) (own_r3 (own_m p4) (own_m p5)) (own_r3 (own_m p4) (own_m p5)))))))] [(.int (own_r2 (own_m p4) (own_m p5))), (.int (1 : Int32)), (.ref b6)])) _
    refine XS.iload X24.here hx rfl (hb hby at_180) rfl ?_
    show Steps p.tables e below (T24.setTop (mkF m 182 #[.val (.int p1), .val (.int p2), .val (.int p3), .val (.int p4), .val (.int p5), .val (.ref b6), .val (.int (own_m p4)), .val (.int (own_m p5)), .val (.int (own_r2 (own_m p4) (own_m p5))), .val (.int (own_r3 (own_m p4) (own_m p5))), .val (.int (own_pk (own_x2 p1 p2 p3) (2 : Int32) (own_r2 (own_m p4) (own_m p5)) (own_r3 (own_m p4) (own_m p5)) (own_pk (own_x3 p1 p2 p3) (3 : Int32) (own_r2 (own_m p4) (own_m p5)) (own_r3 (own_m p4) (own_m p5)) (own_pk (own_x4 p1 p2 p3) (4 : Int32) (own_r2 (own_m p4) (own_m p5)) (own_r3 (own_m p4) (own_m p5)) (own_pk (own_x5 p1 p2 p3) (5 : Int32) (own_r2 (own_m p4) (own_m p5)) (own_r3 (own_m p4) (own_m p5)) (own_r3 (own_m p4) (own_m p5)))))))] [(.int (own_r3 (own_m p4) (own_m p5))), (.int (own_r2 (own_m p4) (own_m p5))), (.int (1 : Int32)), (.ref b6)])) _
    refine XS.iload X24.here hx rfl (hb hby at_182) rfl ?_
    show Steps p.tables e below (T24.setTop (mkF m 184 #[.val (.int p1), .val (.int p2), .val (.int p3), .val (.int p4), .val (.int p5), .val (.ref b6), .val (.int (own_m p4)), .val (.int (own_m p5)), .val (.int (own_r2 (own_m p4) (own_m p5))), .val (.int (own_r3 (own_m p4) (own_m p5))), .val (.int (own_pk (own_x2 p1 p2 p3) (2 : Int32) (own_r2 (own_m p4) (own_m p5)) (own_r3 (own_m p4) (own_m p5)) (own_pk (own_x3 p1 p2 p3) (3 : Int32) (own_r2 (own_m p4) (own_m p5)) (own_r3 (own_m p4) (own_m p5)) (own_pk (own_x4 p1 p2 p3) (4 : Int32) (own_r2 (own_m p4) (own_m p5)) (own_r3 (own_m p4) (own_m p5)) (own_pk (own_x5 p1 p2 p3) (5 : Int32) (own_r2 (own_m p4) (own_m p5)) (own_r3 (own_m p4) (own_m p5)) (own_r3 (own_m p4) (own_m p5)))))))] [(.int (own_pk (own_x2 p1 p2 p3) (2 : Int32) (own_r2 (own_m p4) (own_m p5)) (own_r3 (own_m p4) (own_m p5)) (own_pk (own_x3 p1 p2 p3) (3 : Int32) (own_r2 (own_m p4) (own_m p5)) (own_r3 (own_m p4) (own_m p5)) (own_pk (own_x4 p1 p2 p3) (4 : Int32) (own_r2 (own_m p4) (own_m p5)) (own_r3 (own_m p4) (own_m p5)) (own_pk (own_x5 p1 p2 p3) (5 : Int32) (own_r2 (own_m p4) (own_m p5)) (own_r3 (own_m p4) (own_m p5)) (own_r3 (own_m p4) (own_m p5))))))), (.int (own_r3 (own_m p4) (own_m p5))), (.int (own_r2 (own_m p4) (own_m p5))), (.int (1 : Int32)), (.ref b6)])) _
    refine st25 _ ?_
    show Steps p.tables e below (T25.setTop (mkF m 187 #[.val (.int p1), .val (.int p2), .val (.int p3), .val (.int p4), .val (.int p5), .val (.ref b6), .val (.int (own_m p4)), .val (.int (own_m p5)), .val (.int (own_r2 (own_m p4) (own_m p5))), .val (.int (own_r3 (own_m p4) (own_m p5))), .val (.int (own_pk (own_x2 p1 p2 p3) (2 : Int32) (own_r2 (own_m p4) (own_m p5)) (own_r3 (own_m p4) (own_m p5)) (own_pk (own_x3 p1 p2 p3) (3 : Int32) (own_r2 (own_m p4) (own_m p5)) (own_r3 (own_m p4) (own_m p5)) (own_pk (own_x4 p1 p2 p3) (4 : Int32) (own_r2 (own_m p4) (own_m p5)) (own_r3 (own_m p4) (own_m p5)) (own_pk (own_x5 p1 p2 p3) (5 : Int32) (own_r2 (own_m p4) (own_m p5)) (own_r3 (own_m p4) (own_m p5)) (own_r3 (own_m p4) (own_m p5)))))))] [(.int (own_pk (own_x1 p1 p2 p3) (1 : Int32) (own_r2 (own_m p4) (own_m p5)) (own_r3 (own_m p4) (own_m p5)) (own_pk (own_x2 p1 p2 p3) (2 : Int32) (own_r2 (own_m p4) (own_m p5)) (own_r3 (own_m p4) (own_m p5)) (own_pk (own_x3 p1 p2 p3) (3 : Int32) (own_r2 (own_m p4) (own_m p5)) (own_r3 (own_m p4) (own_m p5)) (own_pk (own_x4 p1 p2 p3) (4 : Int32) (own_r2 (own_m p4) (own_m p5)) (own_r3 (own_m p4) (own_m p5)) (own_pk (own_x5 p1 p2 p3) (5 : Int32) (own_r2 (own_m p4) (own_m p5)) (own_r3 (own_m p4) (own_m p5)) (own_r3 (own_m p4) (own_m p5))))))))])) _
    refine XS.istore X25.here hx rfl (hb hby at_187) rfl (l' := #[.val (.int p1), .val (.int p2), .val (.int p3), .val (.int p4), .val (.int p5), .val (.ref b6), .val (.int (own_m p4)), .val (.int (own_m p5)), .val (.int (own_r2 (own_m p4) (own_m p5))), .val (.int (own_r3 (own_m p4) (own_m p5))), .val (.int (own_pk (own_x1 p1 p2 p3) (1 : Int32) (own_r2 (own_m p4) (own_m p5)) (own_r3 (own_m p4) (own_m p5)) (own_pk (own_x2 p1 p2 p3) (2 : Int32) (own_r2 (own_m p4) (own_m p5)) (own_r3 (own_m p4) (own_m p5)) (own_pk (own_x3 p1 p2 p3) (3 : Int32) (own_r2 (own_m p4) (own_m p5)) (own_r3 (own_m p4) (own_m p5)) (own_pk (own_x4 p1 p2 p3) (4 : Int32) (own_r2 (own_m p4) (own_m p5)) (own_r3 (own_m p4) (own_m p5)) (own_pk (own_x5 p1 p2 p3) (5 : Int32) (own_r2 (own_m p4) (own_m p5)) (own_r3 (own_m p4) (own_m p5)) (own_r3 (own_m p4) (own_m p5))))))))]) rfl ?_
    show Steps p.tables e below (T25.setTop (mkF m 189 #[.val (.int p1), .val (.int p2), .val (.int p3), .val (.int p4), .val (.int p5), .val (.ref b6), .val (.int (own_m p4)), .val (.int (own_m p5)), .val (.int (own_r2 (own_m p4) (own_m p5))), .val (.int (own_r3 (own_m p4) (own_m p5))), .val (.int (own_pk (own_x1 p1 p2 p3) (1 : Int32) (own_r2 (own_m p4) (own_m p5)) (own_r3 (own_m p4) (own_m p5)) (own_pk (own_x2 p1 p2 p3) (2 : Int32) (own_r2 (own_m p4) (own_m p5)) (own_r3 (own_m p4) (own_m p5)) (own_pk (own_x3 p1 p2 p3) (3 : Int32) (own_r2 (own_m p4) (own_m p5)) (own_r3 (own_m p4) (own_m p5)) (own_pk (own_x4 p1 p2 p3) (4 : Int32) (own_r2 (own_m p4) (own_m p5)) (own_r3 (own_m p4) (own_m p5)) (own_pk (own_x5 p1 p2 p3) (5 : Int32) (own_r2 (own_m p4) (own_m p5)) (own_r3 (own_m p4) (own_m p5)) (own_r3 (own_m p4) (own_m p5))))))))] [])) _
    refine XS.aload X25.here hx rfl (hb hby at_189) rfl rfl ?_
    show Steps p.tables e below (T25.setTop (mkF m 191 #[.val (.int p1), .val (.int p2), .val (.int p3), .val (.int p4), .val (.int p5), .val (.ref b6), .val (.int (own_m p4)), .val (.int (own_m p5)), .val (.int (own_r2 (own_m p4) (own_m p5))), .val (.int (own_r3 (own_m p4) (own_m p5))), .val (.int (own_pk (own_x1 p1 p2 p3) (1 : Int32) (own_r2 (own_m p4) (own_m p5)) (own_r3 (own_m p4) (own_m p5)) (own_pk (own_x2 p1 p2 p3) (2 : Int32) (own_r2 (own_m p4) (own_m p5)) (own_r3 (own_m p4) (own_m p5)) (own_pk (own_x3 p1 p2 p3) (3 : Int32) (own_r2 (own_m p4) (own_m p5)) (own_r3 (own_m p4) (own_m p5)) (own_pk (own_x4 p1 p2 p3) (4 : Int32) (own_r2 (own_m p4) (own_m p5)) (own_r3 (own_m p4) (own_m p5)) (own_pk (own_x5 p1 p2 p3) (5 : Int32) (own_r2 (own_m p4) (own_m p5)) (own_r3 (own_m p4) (own_m p5)) (own_r3 (own_m p4) (own_m p5))))))))] [(.ref b6)])) _
    refine XS.iconst X25.here hx rfl (hb hby at_191) ?_
    show Steps p.tables e below (T25.setTop (mkF m 192 #[.val (.int p1), .val (.int p2), .val (.int p3), .val (.int p4), .val (.int p5), .val (.ref b6), .val (.int (own_m p4)), .val (.int (own_m p5)), .val (.int (own_r2 (own_m p4) (own_m p5))), .val (.int (own_r3 (own_m p4) (own_m p5))), .val (.int (own_pk (own_x1 p1 p2 p3) (1 : Int32) (own_r2 (own_m p4) (own_m p5)) (own_r3 (own_m p4) (own_m p5)) (own_pk (own_x2 p1 p2 p3) (2 : Int32) (own_r2 (own_m p4) (own_m p5)) (own_r3 (own_m p4) (own_m p5)) (own_pk (own_x3 p1 p2 p3) (3 : Int32) (own_r2 (own_m p4) (own_m p5)) (own_r3 (own_m p4) (own_m p5)) (own_pk (own_x4 p1 p2 p3) (4 : Int32) (own_r2 (own_m p4) (own_m p5)) (own_r3 (own_m p4) (own_m p5)) (own_pk (own_x5 p1 p2 p3) (5 : Int32) (own_r2 (own_m p4) (own_m p5)) (own_r3 (own_m p4) (own_m p5)) (own_r3 (own_m p4) (own_m p5))))))))] [(.int (0 : Int32)), (.ref b6)])) _
    refine XS.iload X25.here hx rfl (hb hby at_192) rfl ?_
    show Steps p.tables e below (T25.setTop (mkF m 194 #[.val (.int p1), .val (.int p2), .val (.int p3), .val (.int p4), .val (.int p5), .val (.ref b6), .val (.int (own_m p4)), .val (.int (own_m p5)), .val (.int (own_r2 (own_m p4) (own_m p5))), .val (.int (own_r3 (own_m p4) (own_m p5))), .val (.int (own_pk (own_x1 p1 p2 p3) (1 : Int32) (own_r2 (own_m p4) (own_m p5)) (own_r3 (own_m p4) (own_m p5)) (own_pk (own_x2 p1 p2 p3) (2 : Int32) (own_r2 (own_m p4) (own_m p5)) (own_r3 (own_m p4) (own_m p5)) (own_pk (own_x3 p1 p2 p3) (3 : Int32) (own_r2 (own_m p4) (own_m p5)) (own_r3 (own_m p4) (own_m p5)) (own_pk (own_x4 p1 p2 p3) (4 : Int32) (own_r2 (own_m p4) (own_m p5)) (own_r3 (own_m p4) (own_m p5)) (own_pk (own_x5 p1 p2 p3) (5 : Int32) (own_r2 (own_m p4) (own_m p5)) (own_r3 (own_m p4) (own_m p5)) (own_r3 (own_m p4) (own_m p5))))))))] [(.int (own_r2 (own_m p4) (own_m p5))), (.int (0 : Int32)), (.ref b6)])) _
    refine XS.iload X25.here hx rfl (hb hby at_194) rfl ?_
    show Steps p.tables e below (T25.setTop (mkF m 196 #[.val (.int p1), .val (.int p2), .val (.int p3), .val (.int p4), .val (.int p5), .val (.ref b6), .val (.int (own_m p4)), .val (.int (own_m p5)), .val (.int (own_r2 (own_m p4) (own_m p5))), .val (.int (own_r3 (own_m p4) (own_m p5))), .val (.int (own_pk (own_x1 p1 p2 p3) (1 : Int32) (own_r2 (own_m p4) (own_m p5)) (own_r3 (own_m p4) (own_m p5)) (own_pk (own_x2 p1 p2 p3) (2 : Int32) (own_r2 (own_m p4) (own_m p5)) (own_r3 (own_m p4) (own_m p5)) (own_pk (own_x3 p1 p2 p3) (3 : Int32) (own_r2 (own_m p4) (own_m p5)) (own_r3 (own_m p4) (own_m p5)) (own_pk (own_x4 p1 p2 p3) (4 : Int32) (own_r2 (own_m p4) (own_m p5)) (own_r3 (own_m p4) (own_m p5)) (own_pk (own_x5 p1 p2 p3) (5 : Int32) (own_r2 (own_m p4) (own_m p5)) (own_r3 (own_m p4) (own_m p5)) (own_r3 (own_m p4) (own_m p5))))))))] [(.int (own_r3 (own_m p4) (own_m p5))), (.int (own_r2 (own_m p4) (own_m p5))), (.int (0 : Int32)), (.ref b6)])) _
    refine XS.iload X25.here hx rfl (hb hby at_196) rfl ?_
    show Steps p.tables e below (T25.setTop (mkF m 198 #[.val (.int p1), .val (.int p2), .val (.int p3), .val (.int p4), .val (.int p5), .val (.ref b6), .val (.int (own_m p4)), .val (.int (own_m p5)), .val (.int (own_r2 (own_m p4) (own_m p5))), .val (.int (own_r3 (own_m p4) (own_m p5))), .val (.int (own_pk (own_x1 p1 p2 p3) (1 : Int32) (own_r2 (own_m p4) (own_m p5)) (own_r3 (own_m p4) (own_m p5)) (own_pk (own_x2 p1 p2 p3) (2 : Int32) (own_r2 (own_m p4) (own_m p5)) (own_r3 (own_m p4) (own_m p5)) (own_pk (own_x3 p1 p2 p3) (3 : Int32) (own_r2 (own_m p4) (own_m p5)) (own_r3 (own_m p4) (own_m p5)) (own_pk (own_x4 p1 p2 p3) (4 : Int32) (own_r2 (own_m p4) (own_m p5)) (own_r3 (own_m p4) (own_m p5)) (own_pk (own_x5 p1 p2 p3) (5 : Int32) (own_r2 (own_m p4) (own_m p5)) (own_r3 (own_m p4) (own_m p5)) (own_r3 (own_m p4) (own_m p5))))))))] [(.int (own_pk (own_x1 p1 p2 p3) (1 : Int32) (own_r2 (own_m p4) (own_m p5)) (own_r3 (own_m p4) (own_m p5)) (own_pk (own_x2 p1 p2 p3) (2 : Int32) (own_r2 (own_m p4) (own_m p5)) (own_r3 (own_m p4) (own_m p5)) (own_pk (own_x3 p1 p2 p3) (3 : Int32) (own_r2 (own_m p4) (own_m p5)) (own_r3 (own_m p4) (own_m p5)) (own_pk (own_x4 p1 p2 p3) (4 : Int32) (own_r2 (own_m p4) (own_m p5)) (own_r3 (own_m p4) (own_m p5)) (own_pk (own_x5 p1 p2 p3) (5 : Int32) (own_r2 (own_m p4) (own_m p5)) (own_r3 (own_m p4) (own_m p5)) (own_r3 (own_m p4) (own_m p5)))))))), (.int (own_r3 (own_m p4) (own_m p5))), (.int (own_r2 (own_m p4) (own_m p5))), (.int (0 : Int32)), (.ref b6)])) _
    refine st26 _ ?_
    show Steps p.tables e below (T26.setTop (mkF m 201 #[.val (.int p1), .val (.int p2), .val (.int p3), .val (.int p4), .val (.int p5), .val (.ref b6), .val (.int (own_m p4)), .val (.int (own_m p5)), .val (.int (own_r2 (own_m p4) (own_m p5))), .val (.int (own_r3 (own_m p4) (own_m p5))), .val (.int (own_pk (own_x1 p1 p2 p3) (1 : Int32) (own_r2 (own_m p4) (own_m p5)) (own_r3 (own_m p4) (own_m p5)) (own_pk (own_x2 p1 p2 p3) (2 : Int32) (own_r2 (own_m p4) (own_m p5)) (own_r3 (own_m p4) (own_m p5)) (own_pk (own_x3 p1 p2 p3) (3 : Int32) (own_r2 (own_m p4) (own_m p5)) (own_r3 (own_m p4) (own_m p5)) (own_pk (own_x4 p1 p2 p3) (4 : Int32) (own_r2 (own_m p4) (own_m p5)) (own_r3 (own_m p4) (own_m p5)) (own_pk (own_x5 p1 p2 p3) (5 : Int32) (own_r2 (own_m p4) (own_m p5)) (own_r3 (own_m p4) (own_m p5)) (own_r3 (own_m p4) (own_m p5))))))))] [(.int (own_pk (own_x0 p1 p2 p3) (0 : Int32) (own_r2 (own_m p4) (own_m p5)) (own_r3 (own_m p4) (own_m p5)) (own_pk (own_x1 p1 p2 p3) (1 : Int32) (own_r2 (own_m p4) (own_m p5)) (own_r3 (own_m p4) (own_m p5)) (own_pk (own_x2 p1 p2 p3) (2 : Int32) (own_r2 (own_m p4) (own_m p5)) (own_r3 (own_m p4) (own_m p5)) (own_pk (own_x3 p1 p2 p3) (3 : Int32) (own_r2 (own_m p4) (own_m p5)) (own_r3 (own_m p4) (own_m p5)) (own_pk (own_x4 p1 p2 p3) (4 : Int32) (own_r2 (own_m p4) (own_m p5)) (own_r3 (own_m p4) (own_m p5)) (own_pk (own_x5 p1 p2 p3) (5 : Int32) (own_r2 (own_m p4) (own_m p5)) (own_r3 (own_m p4) (own_m p5)) (own_r3 (own_m p4) (own_m p5)))))))))])) _
    refine XS.istore X26.here hx rfl (hb hby at_201) rfl (l' := #[.val (.int p1), .val (.int p2), .val (.int p3), .val (.int p4), .val (.int p5), .val (.ref b6), .val (.int (own_m p4)), .val (.int (own_m p5)), .val (.int (own_r2 (own_m p4) (own_m p5))), .val (.int (own_r3 (own_m p4) (own_m p5))), .val (.int (own_pk (own_x0 p1 p2 p3) (0 : Int32) (own_r2 (own_m p4) (own_m p5)) (own_r3 (own_m p4) (own_m p5)) (own_pk (own_x1 p1 p2 p3) (1 : Int32) (own_r2 (own_m p4) (own_m p5)) (own_r3 (own_m p4) (own_m p5)) (own_pk (own_x2 p1 p2 p3) (2 : Int32) (own_r2 (own_m p4) (own_m p5)) (own_r3 (own_m p4) (own_m p5)) (own_pk (own_x3 p1 p2 p3) (3 : Int32) (own_r2 (own_m p4) (own_m p5)) (own_r3 (own_m p4) (own_m p5)) (own_pk (own_x4 p1 p2 p3) (4 : Int32) (own_r2 (own_m p4) (own_m p5)) (own_r3 (own_m p4) (own_m p5)) (own_pk (own_x5 p1 p2 p3) (5 : Int32) (own_r2 (own_m p4) (own_m p5)) (own_r3 (own_m p4) (own_m p5)) (own_r3 (own_m p4) (own_m p5)))))))))]) rfl ?_
    show Steps p.tables e below (T26.setTop (mkF m 203 #[.val (.int p1), .val (.int p2), .val (.int p3), .val (.int p4), .val (.int p5), .val (.ref b6), .val (.int (own_m p4)), .val (.int (own_m p5)), .val (.int (own_r2 (own_m p4) (own_m p5))), .val (.int (own_r3 (own_m p4) (own_m p5))), .val (.int (own_pk (own_x0 p1 p2 p3) (0 : Int32) (own_r2 (own_m p4) (own_m p5)) (own_r3 (own_m p4) (own_m p5)) (own_pk (own_x1 p1 p2 p3) (1 : Int32) (own_r2 (own_m p4) (own_m p5)) (own_r3 (own_m p4) (own_m p5)) (own_pk (own_x2 p1 p2 p3) (2 : Int32) (own_r2 (own_m p4) (own_m p5)) (own_r3 (own_m p4) (own_m p5)) (own_pk (own_x3 p1 p2 p3) (3 : Int32) (own_r2 (own_m p4) (own_m p5)) (own_r3 (own_m p4) (own_m p5)) (own_pk (own_x4 p1 p2 p3) (4 : Int32) (own_r2 (own_m p4) (own_m p5)) (own_r3 (own_m p4) (own_m p5)) (own_pk (own_x5 p1 p2 p3) (5 : Int32) (own_r2 (own_m p4) (own_m p5)) (own_r3 (own_m p4) (own_m p5)) (own_r3 (own_m p4) (own_m p5)))))))))] [])) _
    refine XS.aload X26.here hx rfl (hb hby at_203) rfl rfl ?_
    show Steps p.tables e below (T26.setTop (mkF m 205 #[.val (.int p1), .val (.int p2), .val (.int p3), .val (.int p4), .val (.int p5), .val (.ref b6), .val (.int (own_m p4)), .val (.int (own_m p5)), .val (.int (own_r2 (own_m p4) (own_m p5))), .val (.int (own_r3 (own_m p4) (own_m p5))), .val (.int (own_pk (own_x0 p1 p2 p3) (0 : Int32) (own_r2 (own_m p4) (own_m p5)) (own_r3 (own_m p4) (own_m p5)) (own_pk (own_x1 p1 p2 p3) (1 : Int32) (own_r2 (own_m p4) (own_m p5)) (own_r3 (own_m p4) (own_m p5)) (own_pk (own_x2 p1 p2 p3) (2 : Int32) (own_r2 (own_m p4) (own_m p5)) (own_r3 (own_m p4) (own_m p5)) (own_pk (own_x3 p1 p2 p3) (3 : Int32) (own_r2 (own_m p4) (own_m p5)) (own_r3 (own_m p4) (own_m p5)) (own_pk (own_x4 p1 p2 p3) (4 : Int32) (own_r2 (own_m p4) (own_m p5)) (own_r3 (own_m p4) (own_m p5)) (own_pk (own_x5 p1 p2 p3) (5 : Int32) (own_r2 (own_m p4) (own_m p5)) (own_r3 (own_m p4) (own_m p5)) (own_r3 (own_m p4) (own_m p5)))))))))] [(.ref b6)])) _
    refine XS.iload X26.here hx rfl (hb hby at_205) rfl ?_
    show Steps p.tables e below (T26.setTop (mkF m 207 #[.val (.int p1), .val (.int p2), .val (.int p3), .val (.int p4), .val (.int p5), .val (.ref b6), .val (.int (own_m p4)), .val (.int (own_m p5)), .val (.int (own_r2 (own_m p4) (own_m p5))), .val (.int (own_r3 (own_m p4) (own_m p5))), .val (.int (own_pk (own_x0 p1 p2 p3) (0 : Int32) (own_r2 (own_m p4) (own_m p5)) (own_r3 (own_m p4) (own_m p5)) (own_pk (own_x1 p1 p2 p3) (1 : Int32) (own_r2 (own_m p4) (own_m p5)) (own_r3 (own_m p4) (own_m p5)) (own_pk (own_x2 p1 p2 p3) (2 : Int32) (own_r2 (own_m p4) (own_m p5)) (own_r3 (own_m p4) (own_m p5)) (own_pk (own_x3 p1 p2 p3) (3 : Int32) (own_r2 (own_m p4) (own_m p5)) (own_r3 (own_m p4) (own_m p5)) (own_pk (own_x4 p1 p2 p3) (4 : Int32) (own_r2 (own_m p4) (own_m p5)) (own_r3 (own_m p4) (own_m p5)) (own_pk (own_x5 p1 p2 p3) (5 : Int32) (own_r2 (own_m p4) (own_m p5)) (own_r3 (own_m p4) (own_m p5)) (own_r3 (own_m p4) (own_m p5)))))))))] [(.int (own_r2 (own_m p4) (own_m p5))), (.ref b6)])) _
    refine XS.iload X26.here hx rfl (hb hby at_207) rfl ?_
    show Steps p.tables e below (T26.setTop (mkF m 209 #[.val (.int p1), .val (.int p2), .val (.int p3), .val (.int p4), .val (.int p5), .val (.ref b6), .val (.int (own_m p4)), .val (.int (own_m p5)), .val (.int (own_r2 (own_m p4) (own_m p5))), .val (.int (own_r3 (own_m p4) (own_m p5))), .val (.int (own_pk (own_x0 p1 p2 p3) (0 : Int32) (own_r2 (own_m p4) (own_m p5)) (own_r3 (own_m p4) (own_m p5)) (own_pk (own_x1 p1 p2 p3) (1 : Int32) (own_r2 (own_m p4) (own_m p5)) (own_r3 (own_m p4) (own_m p5)) (own_pk (own_x2 p1 p2 p3) (2 : Int32) (own_r2 (own_m p4) (own_m p5)) (own_r3 (own_m p4) (own_m p5)) (own_pk (own_x3 p1 p2 p3) (3 : Int32) (own_r2 (own_m p4) (own_m p5)) (own_r3 (own_m p4) (own_m p5)) (own_pk (own_x4 p1 p2 p3) (4 : Int32) (own_r2 (own_m p4) (own_m p5)) (own_r3 (own_m p4) (own_m p5)) (own_pk (own_x5 p1 p2 p3) (5 : Int32) (own_r2 (own_m p4) (own_m p5)) (own_r3 (own_m p4) (own_m p5)) (own_r3 (own_m p4) (own_m p5)))))))))] [(.int (own_r3 (own_m p4) (own_m p5))), (.int (own_r2 (own_m p4) (own_m p5))), (.ref b6)])) _
    refine st27 _ ?_
    show Steps p.tables e below (T27.setTop (mkF m 212 #[.val (.int p1), .val (.int p2), .val (.int p3), .val (.int p4), .val (.int p5), .val (.ref b6), .val (.int (own_m p4)), .val (.int (own_m p5)), .val (.int (own_r2 (own_m p4) (own_m p5))), .val (.int (own_r3 (own_m p4) (own_m p5))), .val (.int (own_pk (own_x0 p1 p2 p3) (0 : Int32) (own_r2 (own_m p4) (own_m p5)) (own_r3 (own_m p4) (own_m p5)) (own_pk (own_x1 p1 p2 p3) (1 : Int32) (own_r2 (own_m p4) (own_m p5)) (own_r3 (own_m p4) (own_m p5)) (own_pk (own_x2 p1 p2 p3) (2 : Int32) (own_r2 (own_m p4) (own_m p5)) (own_r3 (own_m p4) (own_m p5)) (own_pk (own_x3 p1 p2 p3) (3 : Int32) (own_r2 (own_m p4) (own_m p5)) (own_r3 (own_m p4) (own_m p5)) (own_pk (own_x4 p1 p2 p3) (4 : Int32) (own_r2 (own_m p4) (own_m p5)) (own_r3 (own_m p4) (own_m p5)) (own_pk (own_x5 p1 p2 p3) (5 : Int32) (own_r2 (own_m p4) (own_m p5)) (own_r3 (own_m p4) (own_m p5)) (own_r3 (own_m p4) (own_m p5)))))))))] [(.int (Int32.ofNat (own_le (own_f (own_x0 p1 p2 p3) (own_x1 p1 p2 p3) (own_x2 p1 p2 p3) (own_x3 p1 p2 p3) (own_x4 p1 p2 p3) (own_x5 p1 p2 p3)) (min a b) (max a b - min a b))))])) _
    refine XS.iload X27.here hx rfl (hb hby at_212) rfl ?_
    show Steps p.tables e below (T27.setTop (mkF m 214 #[.val (.int p1), .val (.int p2), .val (.int p3), .val (.int p4), .val (.int p5), .val (.ref b6), .val (.int (own_m p4)), .val (.int (own_m p5)), .val (.int (own_r2 (own_m p4) (own_m p5))), .val (.int (own_r3 (own_m p4) (own_m p5))), .val (.int (own_pk (own_x0 p1 p2 p3) (0 : Int32) (own_r2 (own_m p4) (own_m p5)) (own_r3 (own_m p4) (own_m p5)) (own_pk (own_x1 p1 p2 p3) (1 : Int32) (own_r2 (own_m p4) (own_m p5)) (own_r3 (own_m p4) (own_m p5)) (own_pk (own_x2 p1 p2 p3) (2 : Int32) (own_r2 (own_m p4) (own_m p5)) (own_r3 (own_m p4) (own_m p5)) (own_pk (own_x3 p1 p2 p3) (3 : Int32) (own_r2 (own_m p4) (own_m p5)) (own_r3 (own_m p4) (own_m p5)) (own_pk (own_x4 p1 p2 p3) (4 : Int32) (own_r2 (own_m p4) (own_m p5)) (own_r3 (own_m p4) (own_m p5)) (own_pk (own_x5 p1 p2 p3) (5 : Int32) (own_r2 (own_m p4) (own_m p5)) (own_r3 (own_m p4) (own_m p5)) (own_r3 (own_m p4) (own_m p5)))))))))] [(.int (own_pk (own_x0 p1 p2 p3) (0 : Int32) (own_r2 (own_m p4) (own_m p5)) (own_r3 (own_m p4) (own_m p5)) (own_pk (own_x1 p1 p2 p3) (1 : Int32) (own_r2 (own_m p4) (own_m p5)) (own_r3 (own_m p4) (own_m p5)) (own_pk (own_x2 p1 p2 p3) (2 : Int32) (own_r2 (own_m p4) (own_m p5)) (own_r3 (own_m p4) (own_m p5)) (own_pk (own_x3 p1 p2 p3) (3 : Int32) (own_r2 (own_m p4) (own_m p5)) (own_r3 (own_m p4) (own_m p5)) (own_pk (own_x4 p1 p2 p3) (4 : Int32) (own_r2 (own_m p4) (own_m p5)) (own_r3 (own_m p4) (own_m p5)) (own_pk (own_x5 p1 p2 p3) (5 : Int32) (own_r2 (own_m p4) (own_m p5)) (own_r3 (own_m p4) (own_m p5)) (own_r3 (own_m p4) (own_m p5))))))))), (.int (Int32.ofNat (own_le (own_f (own_x0 p1 p2 p3) (own_x1 p1 p2 p3) (own_x2 p1 p2 p3) (own_x3 p1 p2 p3) (own_x4 p1 p2 p3) (own_x5 p1 p2 p3)) (min a b) (max a b - min a b))))])) _
    refine XS.icmpNo X27.here hx rfl (hb hby at_214) rfl (teq (by rw [own_law a b ha hb7]; rw [emin, emax] : (Int32.ofNat (own_le (own_f (own_x0 p1 p2 p3) (own_x1 p1 p2 p3) (own_x2 p1 p2 p3) (own_x3 p1 p2 p3) (own_x4 p1 p2 p3) (own_x5 p1 p2 p3)) (min a b) (max a b - min a b))) = (own_pk (own_x0 p1 p2 p3) (0 : Int32) (own_r2 (own_m p4) (own_m p5)) (own_r3 (own_m p4) (own_m p5)) (own_pk (own_x1 p1 p2 p3) (1 : Int32) (own_r2 (own_m p4) (own_m p5)) (own_r3 (own_m p4) (own_m p5)) (own_pk (own_x2 p1 p2 p3) (2 : Int32) (own_r2 (own_m p4) (own_m p5)) (own_r3 (own_m p4) (own_m p5)) (own_pk (own_x3 p1 p2 p3) (3 : Int32) (own_r2 (own_m p4) (own_m p5)) (own_r3 (own_m p4) (own_m p5)) (own_pk (own_x4 p1 p2 p3) (4 : Int32) (own_r2 (own_m p4) (own_m p5)) (own_r3 (own_m p4) (own_m p5)) (own_pk (own_x5 p1 p2 p3) (5 : Int32) (own_r2 (own_m p4) (own_m p5)) (own_r3 (own_m p4) (own_m p5)) (own_r3 (own_m p4) (own_m p5)))))))))).2 ?_
    show Steps p.tables e below (T27.setTop (mkF m 217 #[.val (.int p1), .val (.int p2), .val (.int p3), .val (.int p4), .val (.int p5), .val (.ref b6), .val (.int (own_m p4)), .val (.int (own_m p5)), .val (.int (own_r2 (own_m p4) (own_m p5))), .val (.int (own_r3 (own_m p4) (own_m p5))), .val (.int (own_pk (own_x0 p1 p2 p3) (0 : Int32) (own_r2 (own_m p4) (own_m p5)) (own_r3 (own_m p4) (own_m p5)) (own_pk (own_x1 p1 p2 p3) (1 : Int32) (own_r2 (own_m p4) (own_m p5)) (own_r3 (own_m p4) (own_m p5)) (own_pk (own_x2 p1 p2 p3) (2 : Int32) (own_r2 (own_m p4) (own_m p5)) (own_r3 (own_m p4) (own_m p5)) (own_pk (own_x3 p1 p2 p3) (3 : Int32) (own_r2 (own_m p4) (own_m p5)) (own_r3 (own_m p4) (own_m p5)) (own_pk (own_x4 p1 p2 p3) (4 : Int32) (own_r2 (own_m p4) (own_m p5)) (own_r3 (own_m p4) (own_m p5)) (own_pk (own_x5 p1 p2 p3) (5 : Int32) (own_r2 (own_m p4) (own_m p5)) (own_r3 (own_m p4) (own_m p5)) (own_r3 (own_m p4) (own_m p5)))))))))] [])) _
    refine XS.iconst X27.here hx rfl (hb hby at_217) ?_
    show Steps p.tables e below (T27.setTop (mkF m 218 #[.val (.int p1), .val (.int p2), .val (.int p3), .val (.int p4), .val (.int p5), .val (.ref b6), .val (.int (own_m p4)), .val (.int (own_m p5)), .val (.int (own_r2 (own_m p4) (own_m p5))), .val (.int (own_r3 (own_m p4) (own_m p5))), .val (.int (own_pk (own_x0 p1 p2 p3) (0 : Int32) (own_r2 (own_m p4) (own_m p5)) (own_r3 (own_m p4) (own_m p5)) (own_pk (own_x1 p1 p2 p3) (1 : Int32) (own_r2 (own_m p4) (own_m p5)) (own_r3 (own_m p4) (own_m p5)) (own_pk (own_x2 p1 p2 p3) (2 : Int32) (own_r2 (own_m p4) (own_m p5)) (own_r3 (own_m p4) (own_m p5)) (own_pk (own_x3 p1 p2 p3) (3 : Int32) (own_r2 (own_m p4) (own_m p5)) (own_r3 (own_m p4) (own_m p5)) (own_pk (own_x4 p1 p2 p3) (4 : Int32) (own_r2 (own_m p4) (own_m p5)) (own_r3 (own_m p4) (own_m p5)) (own_pk (own_x5 p1 p2 p3) (5 : Int32) (own_r2 (own_m p4) (own_m p5)) (own_r3 (own_m p4) (own_m p5)) (own_r3 (own_m p4) (own_m p5)))))))))] [(.int (1 : Int32))])) _
    refine XS.goto X27.here hx rfl (pc0 := 218) (pc' := 222) rfl (hb hby at_218) (by decide) (by decide) ?_
    show Steps p.tables e below (T27.setTop (mkF m 222 #[.val (.int p1), .val (.int p2), .val (.int p3), .val (.int p4), .val (.int p5), .val (.ref b6), .val (.int (own_m p4)), .val (.int (own_m p5)), .val (.int (own_r2 (own_m p4) (own_m p5))), .val (.int (own_r3 (own_m p4) (own_m p5))), .val (.int (own_pk (own_x0 p1 p2 p3) (0 : Int32) (own_r2 (own_m p4) (own_m p5)) (own_r3 (own_m p4) (own_m p5)) (own_pk (own_x1 p1 p2 p3) (1 : Int32) (own_r2 (own_m p4) (own_m p5)) (own_r3 (own_m p4) (own_m p5)) (own_pk (own_x2 p1 p2 p3) (2 : Int32) (own_r2 (own_m p4) (own_m p5)) (own_r3 (own_m p4) (own_m p5)) (own_pk (own_x3 p1 p2 p3) (3 : Int32) (own_r2 (own_m p4) (own_m p5)) (own_r3 (own_m p4) (own_m p5)) (own_pk (own_x4 p1 p2 p3) (4 : Int32) (own_r2 (own_m p4) (own_m p5)) (own_r3 (own_m p4) (own_m p5)) (own_pk (own_x5 p1 p2 p3) (5 : Int32) (own_r2 (own_m p4) (own_m p5)) (own_r3 (own_m p4) (own_m p5)) (own_r3 (own_m p4) (own_m p5)))))))))] [(.int (1 : Int32))])) _
    exact retN X27 hx (t := .boolean) Bd.returns (by simp) (hb hby at_222) hr
  · show Q0 Z p1 p2 p3 p4 p5 h0 n0 _ T27.heap _
    exact ⟨rfl, N27⟩
set_option maxRecDepth 65536 in
set_option maxHeartbeats 40000000 in
theorem comes_1 {Post : Tables → Env → Array Value → State → Outcome → State → Prop} (hpost : ∀ tb e args s v u, (limb_1_1.after args s (.returned v) u = true ∧ limb_1_2.after args s (.returned v) u = true ∧ True) → FrameEnd s (.returned v) u (Jvm.fieldLocs frame_1_writes args s ++ Jvm.arrayLocs frame_1_arrays args s ++ Jvm.staticLocs frame_1_statics s) 16 128 → Post tb e args s (.returned v) u) :
    ArmFor flags0 classFile x code maxLocals ret World_1 tables_1 room_1 Calls_1 rest_1 Pre_1 Post := by
  intro l hfl _ _ p e ha hc hk s m args below hf hA hF happ hP
  obtain ⟨hcalls, hrest, hpre⟩ := hP
  obtain ⟨-, -, -, hnamed, -, -, -, hat⟩ := (Spec.applies_iff hf).mp happ
  obtain ⟨hg, hn⟩ := and_e (Cond.before_iff.mp (show (Jvm.Cond.and given_1 narrow_1).before args s = true from hpre))
  obtain ⟨g28, g29⟩ := and_e hg
  obtain ⟨g30, g31⟩ := and_e g29
  obtain ⟨g32, g33⟩ := and_e g31
  obtain ⟨g34, g35⟩ := and_e g33
  obtain ⟨g36, g37⟩ := and_e g35
  obtain ⟨w0, w1, w2, w3, w4, rfl⟩ : ∃ w0 w1 w2 w3 w4 : Value, args = #[w0, w1, w2, w3, w4] := by
    have hs : args.size = 5 := by simpa [Cond.value, given_1] using g28
    obtain ⟨L⟩ := args
    match L, hs with
    | [w0, w1, w2, w3, w4], _ => exact ⟨w0, w1, w2, w3, w4, rfl⟩
  have hw := fun d (hd : d ∈ tables_1) => atoms_spec (ws := Jvm.Cond.code x code maxLocals ret :: tables_1) hat d (List.mem_cons_of_mem _ hd)
  have hfit : Fit s := fun {y c} hc i hi => by
    obtain ⟨ha, rfl⟩ := Array.getElem?_eq_some_iff.mp hc
    have q := List.all_eq_true.mp ((Array.all_eq_true_iff_forall_mem.mp hF) _ (Array.getElem_mem ha)) i (List.mem_range.mpr hi)
    simpa [Array.getElem?_eq_getElem hi] using q
  obtain ⟨i0, ei0⟩ := is_v g30
  obtain rfl : w0 = (.int i0) := Option.some.inj ei0
  obtain ⟨i1, ei1⟩ := is_v g32
  obtain rfl : w1 = (.int i1) := Option.some.inj ei1
  obtain ⟨i2, ei2⟩ := is_v g34
  obtain rfl : w2 = (.int i2) := Option.some.inj ei2
  obtain ⟨i3, ei3⟩ := is_v g36
  obtain rfl : w3 = (.int i3) := Option.some.inj ei3
  obtain ⟨i4, ei4⟩ := is_v g37
  obtain rfl : w4 = (.int i4) := Option.some.inj ei4
  obtain ⟨n, o, h1, h2, h3, _, L, rfl, ⟨rfl, N⟩, hq⟩ := rm0 l s _ hw tables_1 i0 i1 i2 i3 i4 s.heap s.heap.size (Nat.le_refl _) p e ha hc hk s m _ below hf ((Spec.applies_iff_loose hf).mp happ).1 ⟨rfl, State.Warmed39.refl s, rfl⟩ trivial
  refine ⟨n, _, h1, h2, h3, hpost _ _ _ _ _ _ ⟨Cond.after_iff.mpr rfl, Cond.after_iff.mpr (eq_i res_at (Term.int_eval (1)) rfl), trivial⟩ ⟨hq.1, hq.2.1, (hq.2.2.sift fun y hy => Or.inr (N y hy)).mono (by decide) (by decide)⟩⟩
theorem main_1_1 : Claimed_1_1 := comes_1 fun _ _ _ _ _ _ h hF => ⟨h.1, hF⟩
theorem main_1_2 : Claimed_1_2 := comes_1 fun _ _ _ _ _ _ h hF => ⟨h.2.1, hF⟩
end Jvm.Pilot.@@N@@
namespace Jvm.Pilot.@@N@@
open Jvm Jvm.ClassFile Sem Op Lib Jvm.Free Jvm.Stand Jvm.Pilot.@@N@@.Jvm.D
/-! MADE BY PROGRAM (witnessworld.py) out of the Statement's table words and the real class files: 17 classes; the members and pool entries that the words name. The judged class is class 1, her method 1. -/
namespace start1
open Jvm.ClassFile
def u (s : String) : CpInfo := .utf8 (stringToUtf16 s)
/-- a pool by its gaps: so many unusable entries, then the entry; so many at the end -/
def gap : Nat → List CpInfo → List CpInfo
  | 0, r => r
  | n + 1, r => .unusable :: gap n r
def poolList (es : List (Nat × CpInfo)) (last : Nat) : List CpInfo := es.foldr (fun e r => gap e.1 (e.2 :: r)) (gap last [])
def pool (es : List (Nat × CpInfo)) (last : Nat) : Array CpInfo := ⟨poolList es last⟩
def fileOf (pool : Array CpInfo) (this : Nat) (attrs : Array Attribute := #[]) (ms : Array MethodInfo := #[]) (fl : Nat := 33) (sup : Nat := 0) (ifs : Array Nat := #[]) (fds : Array FieldInfo := #[]) : ClassFile where
  minorVersion := 0
  majorVersion := 65
  constantPool := pool
  accessFlags := fl
  thisClass := this
  superClass := sup
  interfaces := ifs
  fields := fds
  methods := ms
  attributes := attrs
def plain (name : String) (sup : Option ClassId) : Class where
  name := name
  kind := .ordinary
  loader := none
  accessFlags := 33
  super := sup
  interfaces := #[]
  cf := none
  fields := #[]
  methods := #[]
  instanceTypes := #[]
  staticTypes := #[]
  resolved := #[]
  callSites := []
  init := .initialized
  statics := none
  mirror := none

def pool0 : Array CpInfo := pool [(5, u "<init>"), (0, u "()V"), (1, .class_ 10), (1, u "java/lang/Object")] 113

def k0m0 : Method := { name := "<init>", desc := "()V", sig := { parameters := [], returnType := none }, accessFlags := 1, code := none }
/-- java/lang/Object -/
def k0 : Class := { plain "java/lang/Object" none with
  accessFlags := 33
  interfaces := #[]
  cf := some (fileOf pool0 8 #[] #[{ accessFlags := 1, nameIndex := 5, descriptorIndex := 6, attributes := #[] }] 33 0 #[] #[])
  fields := #[]
  methods := #[k0m0]
  instanceTypes := #[]
  staticTypes := #[]
  resolved := Array.replicate 124 none
  statics := none }

def pool1 : Array CpInfo := pool [(2, .class_ 4), (1, u "java/lang/Object"), (0, u "<init>"), (0, u "()V"), (0, .methodref 8 9), (0, .class_ 10), (0, .nameAndType 11 12), (0, u "com/example/countersign/countersign/core/LinesLineEndPinLaw"), (0, u "draw"), (0, u "(III)B"), (0, .integer 2147483647), (0, .methodref 15 16), (0, .class_ 17), (0, .nameAndType 18 19), (0, u "java/lang/Math"), (0, u "min"), (0, u "(II)I"), (0, .methodref 15 21), (0, .nameAndType 22 19), (0, u "max"), (0, .methodref 8 24), (0, .nameAndType 25 26), (0, u "pick"), (0, u "([BIIII)I"), (0, .methodref 28 29), (0, .class_ 30), (0, .nameAndType 31 32), (0, u "com/example/countersign/countersign/core/Lines"), (0, u "lineEnd"), (0, u "([BII)I"), (2, u "law"), (0, u "(IIIII)Z")] 5

def k1m0 : Method := { name := "<init>", desc := "()V", sig := { parameters := [], returnType := none }, accessFlags := 1, code := none }
def k1c1 : Code := { maxStack := 6, maxLocals := 11, code := code, exceptionTable := #[], attributes := #[] }
def k1m1 : Method := { name := "law", desc := "(IIIII)Z", sig := { parameters := [.int, .int, .int, .int, .int], returnType := some .boolean }, accessFlags := 9, code := some k1c1 }
def k1c2 : Code := { maxStack := 2, maxLocals := 3, code := method_3_code, exceptionTable := #[], attributes := #[] }
def k1m2 : Method := { name := "draw", desc := "(III)B", sig := { parameters := [.int, .int, .int], returnType := some .byte }, accessFlags := 10, code := some k1c2 }
def k1c3 : Code := { maxStack := 2, maxLocals := 5, code := method_4_code, exceptionTable := #[], attributes := #[] }
def k1m3 : Method := { name := "pick", desc := "([BIIII)I", sig := { parameters := [(.array .byte), .int, .int, .int, .int], returnType := some .int }, accessFlags := 10, code := some k1c3 }
/-- com/example/countersign/countersign/core/LinesLineEndPinLaw -/
def k1 : Class := { plain "com/example/countersign/countersign/core/LinesLineEndPinLaw" (some 0) with
  accessFlags := 49
  interfaces := #[]
  cf := some (fileOf pool1 8 #[] #[{ accessFlags := 1, nameIndex := 5, descriptorIndex := 6, attributes := #[] }, { accessFlags := 9, nameIndex := 35, descriptorIndex := 36, attributes := #[] }, { accessFlags := 10, nameIndex := 11, descriptorIndex := 12, attributes := #[] }, { accessFlags := 10, nameIndex := 25, descriptorIndex := 26, attributes := #[] }] 49 2 #[] #[])
  fields := #[]
  methods := #[k1m0, k1m1, k1m2, k1m3]
  instanceTypes := #[]
  staticTypes := #[]
  resolved := Array.replicate 42 none
  statics := none }

def pool2 : Array CpInfo := pool [(1, .class_ 2), (0, u "java/lang/Math"), (1, .class_ 6), (1, u "java/lang/Object"), (0, u "<init>"), (0, u "()V"), (89, .class_ 100), (1, u "java/lang/Math$RandomNumberGeneratorHolder"), (71, u "negativeZeroFloatBits"), (0, u "J"), (2, u "negativeZeroDoubleBits"), (21, u "max"), (2, u "min"), (43, u "$assertionsDisabled"), (0, u "Z"), (88, u "(II)I"), (2, u "twoToTheDoubleScaleDown"), (0, u "D"), (4, u "twoToTheDoubleScaleUp"), (9, u "E"), (3, u "PI"), (2, u "TAU"), (2, u "DEGREES_TO_RADIANS"), (0, u "RADIANS_TO_DEGREES")] 94

def k2m0 : Method := { name := "<init>", desc := "()V", sig := { parameters := [], returnType := none }, accessFlags := 2, code := none }
def k2c1 : Code := { maxStack := 2, maxLocals := 2, code := jdk_29_method_65_code, exceptionTable := #[], attributes := #[] }
def k2m1 : Method := { name := "max", desc := "(II)I", sig := { parameters := [.int, .int], returnType := some .int }, accessFlags := 9, code := some k2c1 }
def k2c2 : Code := { maxStack := 2, maxLocals := 2, code := jdk_29_method_69_code, exceptionTable := #[], attributes := #[] }
def k2m2 : Method := { name := "min", desc := "(II)I", sig := { parameters := [.int, .int], returnType := some .int }, accessFlags := 9, code := some k2c2 }
/-- java/lang/Math -/
def k2 : Class := { plain "java/lang/Math" (some 0) with
  accessFlags := 49
  interfaces := #[]
  cf := some (fileOf pool2 1 #[.nestMembers #[98]] #[{ accessFlags := 2, nameIndex := 7, descriptorIndex := 8, attributes := #[] }, { accessFlags := 9, nameIndex := 198, descriptorIndex := 335, attributes := #[] }, { accessFlags := 9, nameIndex := 201, descriptorIndex := 335, attributes := #[] }] 49 4 #[] #[{ accessFlags := 25, nameIndex := 354, descriptorIndex := 339, attributes := #[] }, { accessFlags := 25, nameIndex := 358, descriptorIndex := 339, attributes := #[] }, { accessFlags := 25, nameIndex := 361, descriptorIndex := 339, attributes := #[] }, { accessFlags := 26, nameIndex := 364, descriptorIndex := 339, attributes := #[] }, { accessFlags := 26, nameIndex := 365, descriptorIndex := 339, attributes := #[] }, { accessFlags := 26, nameIndex := 172, descriptorIndex := 173, attributes := #[] }, { accessFlags := 26, nameIndex := 176, descriptorIndex := 173, attributes := #[] }, { accessFlags := 8, nameIndex := 344, descriptorIndex := 339, attributes := #[] }, { accessFlags := 8, nameIndex := 338, descriptorIndex := 339, attributes := #[] }, { accessFlags := 4120, nameIndex := 245, descriptorIndex := 246, attributes := #[] }])
  fields := #[{ name := "E", type := .double, accessFlags := 25, slot := 0, constantValue := 0 }, { name := "PI", type := .double, accessFlags := 25, slot := 1, constantValue := 0 }, { name := "TAU", type := .double, accessFlags := 25, slot := 2, constantValue := 0 }, { name := "DEGREES_TO_RADIANS", type := .double, accessFlags := 26, slot := 3, constantValue := 0 }, { name := "RADIANS_TO_DEGREES", type := .double, accessFlags := 26, slot := 4, constantValue := 0 }, { name := "negativeZeroFloatBits", type := .long, accessFlags := 26, slot := 5, constantValue := 0 }, { name := "negativeZeroDoubleBits", type := .long, accessFlags := 26, slot := 6, constantValue := 0 }, { name := "twoToTheDoubleScaleUp", type := .double, accessFlags := 8, slot := 7, constantValue := 0 }, { name := "twoToTheDoubleScaleDown", type := .double, accessFlags := 8, slot := 8, constantValue := 0 }, { name := "$assertionsDisabled", type := .boolean, accessFlags := 4120, slot := 9, constantValue := 0 }]
  methods := #[k2m0, k2m1, k2m2]
  instanceTypes := #[]
  staticTypes := #[.double, .double, .double, .double, .double, .long, .long, .double, .double, .boolean]
  resolved := Array.replicate 460 none
  statics := none }

def pool3 : Array CpInfo := pool [(8, .class_ 10), (1, u "java/lang/Iterable"), (24, .class_ 36), (0, u "java/lang/Object")] 25

/-- java/lang/Iterable -/
def k3 : Class := { plain "java/lang/Iterable" (some 0) with
  accessFlags := 1537
  interfaces := #[]
  cf := some (fileOf pool3 8 #[] #[] 1537 35 #[] #[])
  fields := #[]
  methods := #[]
  instanceTypes := #[]
  staticTypes := #[]
  resolved := Array.replicate 62 none
  statics := none }

def pool4 : Array CpInfo := pool [(10, .class_ 12), (1, u "java/util/Collection"), (47, .class_ 61), (0, u "java/lang/Object"), (0, .class_ 63), (0, u "java/lang/Iterable")] 51

/-- java/util/Collection -/
def k4 : Class := { plain "java/util/Collection" (some 0) with
  accessFlags := 1537
  interfaces := #[3]
  cf := some (fileOf pool4 10 #[] #[] 1537 60 #[62] #[])
  fields := #[]
  methods := #[]
  instanceTypes := #[]
  staticTypes := #[]
  resolved := Array.replicate 115 none
  statics := none }

def pool5 : Array CpInfo := pool [(2, .class_ 4), (1, u "java/lang/Object"), (0, u "<init>"), (0, u "()V"), (1, .class_ 10), (1, u "java/util/AbstractCollection"), (66, .class_ 78), (0, u "java/util/Collection")] 81

def k5m0 : Method := { name := "<init>", desc := "()V", sig := { parameters := [], returnType := none }, accessFlags := 4, code := none }
/-- java/util/AbstractCollection -/
def k5 : Class := { plain "java/util/AbstractCollection" (some 0) with
  accessFlags := 1057
  interfaces := #[4]
  cf := some (fileOf pool5 8 #[] #[{ accessFlags := 4, nameIndex := 5, descriptorIndex := 6, attributes := #[] }] 1057 2 #[77] #[])
  fields := #[]
  methods := #[k5m0]
  instanceTypes := #[]
  staticTypes := #[]
  resolved := Array.replicate 160 none
  statics := none }

def pool6 : Array CpInfo := pool [(8, .class_ 10), (1, u "java/util/SequencedCollection"), (15, .class_ 27), (0, u "java/lang/Object"), (0, .class_ 29), (0, u "java/util/Collection")] 27

/-- java/util/SequencedCollection -/
def k6 : Class := { plain "java/util/SequencedCollection" (some 0) with
  accessFlags := 1537
  interfaces := #[4]
  cf := some (fileOf pool6 8 #[] #[] 1537 26 #[28] #[])
  fields := #[]
  methods := #[]
  instanceTypes := #[]
  staticTypes := #[]
  resolved := Array.replicate 57 none
  statics := none }

def pool7 : Array CpInfo := pool [(8, .class_ 10), (1, u "java/util/List"), (92, .class_ 104), (0, u "java/lang/Object"), (15, .class_ 121), (0, u "java/util/SequencedCollection")] 129

/-- java/util/List -/
def k7 : Class := { plain "java/util/List" (some 0) with
  accessFlags := 1537
  interfaces := #[6]
  cf := some (fileOf pool7 8 #[] #[] 1537 103 #[120] #[])
  fields := #[]
  methods := #[]
  instanceTypes := #[]
  staticTypes := #[]
  resolved := Array.replicate 251 none
  statics := none }

def pool8 : Array CpInfo := pool [(2, .class_ 4), (1, u "java/util/AbstractCollection"), (0, u "<init>"), (0, u "()V"), (1, .class_ 10), (1, u "java/util/AbstractList"), (0, u "modCount"), (0, u "I"), (64, .class_ 78), (0, u "java/util/AbstractList$Itr"), (3, .class_ 83), (0, u "java/util/AbstractList$ListItr"), (9, .class_ 94), (0, u "java/util/AbstractList$RandomAccessSubList"), (3, .class_ 99), (0, u "java/util/AbstractList$SubList"), (33, .class_ 134), (0, u "java/util/List"), (73, .class_ 209), (0, u "java/util/AbstractList$SubList$1"), (0, .class_ 211), (0, u "java/util/AbstractList$RandomAccessSpliterator")] 6

def k8m0 : Method := { name := "<init>", desc := "()V", sig := { parameters := [], returnType := none }, accessFlags := 4, code := none }
/-- java/util/AbstractList -/
def k8 : Class := { plain "java/util/AbstractList" (some 5) with
  accessFlags := 1057
  interfaces := #[7]
  cf := some (fileOf pool8 8 #[.nestMembers #[93, 98, 208, 210, 82, 77]] #[{ accessFlags := 4, nameIndex := 5, descriptorIndex := 6, attributes := #[] }] 1057 2 #[133] #[{ accessFlags := 132, nameIndex := 11, descriptorIndex := 12, attributes := #[] }])
  fields := #[{ name := "modCount", type := .int, accessFlags := 132, slot := 0, constantValue := 0 }]
  methods := #[k8m0]
  instanceTypes := #[.int]
  staticTypes := #[]
  resolved := Array.replicate 218 none
  statics := none }

def pool9 : Array CpInfo := pool [(1, .class_ 2), (0, u "java/util/RandomAccess"), (0, .class_ 4), (0, u "java/lang/Object")] 2

/-- java/util/RandomAccess -/
def k9 : Class := { plain "java/util/RandomAccess" (some 0) with
  accessFlags := 1537
  interfaces := #[]
  cf := some (fileOf pool9 1 #[] #[] 1537 3 #[] #[])
  fields := #[]
  methods := #[]
  instanceTypes := #[]
  staticTypes := #[]
  resolved := Array.replicate 7 none
  statics := none }

def pool10 : Array CpInfo := pool [(2, .class_ 4), (1, u "java/util/AbstractList"), (3, .class_ 10), (1, u "com/example/countersign/countersign/core/Lines"), (0, u "bytes"), (0, u "[B"), (2, u "from"), (0, u "I"), (2, u "length"), (2, u "miscounted"), (0, u "Ljava/util/function/Supplier;"), (2, u "starts"), (0, u "[I"), (28, u "fromFirst"), (2, u "fromLast"), (2, u "lineEnd"), (0, u "([BII)I"), (15, .class_ 80), (0, u "java/util/RandomAccess")] 14

def k10c0 : Code := { maxStack := 2, maxLocals := 4, code := prog_7_method_2_code, exceptionTable := #[], attributes := #[] }
def k10m0 : Method := { name := "lineEnd", desc := "([BII)I", sig := { parameters := [(.array .byte), .int, .int], returnType := some .int }, accessFlags := 8, code := some k10c0 }
/-- com/example/countersign/countersign/core/Lines -/
def k10 : Class := { plain "com/example/countersign/countersign/core/Lines" (some 8) with
  accessFlags := 48
  interfaces := #[9]
  cf := some (fileOf pool10 8 #[] #[{ accessFlags := 8, nameIndex := 62, descriptorIndex := 63, attributes := #[] }] 48 2 #[79] #[{ accessFlags := 18, nameIndex := 11, descriptorIndex := 12, attributes := #[] }, { accessFlags := 18, nameIndex := 15, descriptorIndex := 16, attributes := #[] }, { accessFlags := 18, nameIndex := 19, descriptorIndex := 16, attributes := #[] }, { accessFlags := 18, nameIndex := 22, descriptorIndex := 23, attributes := #[] }, { accessFlags := 18, nameIndex := 26, descriptorIndex := 27, attributes := #[] }, { accessFlags := 2, nameIndex := 56, descriptorIndex := 16, attributes := #[] }, { accessFlags := 2, nameIndex := 59, descriptorIndex := 16, attributes := #[] }])
  fields := #[{ name := "bytes", type := (.array .byte), accessFlags := 18, slot := 1, constantValue := 0 }, { name := "from", type := .int, accessFlags := 18, slot := 2, constantValue := 0 }, { name := "length", type := .int, accessFlags := 18, slot := 3, constantValue := 0 }, { name := "miscounted", type := (.object "java/util/function/Supplier"), accessFlags := 18, slot := 4, constantValue := 0 }, { name := "starts", type := (.array .int), accessFlags := 18, slot := 5, constantValue := 0 }, { name := "fromFirst", type := .int, accessFlags := 2, slot := 6, constantValue := 0 }, { name := "fromLast", type := .int, accessFlags := 2, slot := 7, constantValue := 0 }]
  methods := #[k10m0]
  instanceTypes := #[.int, (.array .byte), .int, .int, (.object "java/util/function/Supplier"), (.array .int), .int, .int]
  staticTypes := #[]
  resolved := Array.replicate 95 none
  statics := none }

def pool11 : Array CpInfo := pool [(1, u "java/lang/Cloneable"), (0, .class_ 1), (0, u "java/lang/Object"), (0, .class_ 3)] 3

/-- java/lang/Cloneable -/
def k11 : Class := { plain "java/lang/Cloneable" (some 0) with
  accessFlags := 1537
  interfaces := #[]
  cf := some (fileOf pool11 2 #[] #[] 1537 4 #[] #[])
  fields := #[]
  methods := #[]
  instanceTypes := #[]
  staticTypes := #[]
  resolved := Array.replicate 8 none
  statics := none }

def pool12 : Array CpInfo := pool [(1, u "java/io/Serializable"), (0, .class_ 1), (0, u "java/lang/Object"), (0, .class_ 3)] 3

/-- java/io/Serializable -/
def k12 : Class := { plain "java/io/Serializable" (some 0) with
  accessFlags := 1537
  interfaces := #[]
  cf := some (fileOf pool12 2 #[] #[] 1537 4 #[] #[])
  fields := #[]
  methods := #[]
  instanceTypes := #[]
  staticTypes := #[]
  resolved := Array.replicate 8 none
  statics := none }

/-- the primitive byte -/
def k13 : Class := { plain "byte" none with kind := .primitive 'B', accessFlags := 0x411 }
/-- [B -/
def k14 : Class := { plain "[B" (some 0) with kind := .array 13 .byte, interfaces := #[11, 12], accessFlags := 1041 }

/-- the primitive int -/
def k15 : Class := { plain "int" none with kind := .primitive 'I', accessFlags := 0x411 }
/-- [I -/
def k16 : Class := { plain "[I" (some 0) with kind := .array 15 .int, interfaces := #[11, 12], accessFlags := 1041 }

def heap : Heap := #[]
def classes : Array Class := #[k0, k1, k2, k3, k4, k5, k6, k7, k8, k9, k10, k11, k12, k13, k14, k15, k16]
def interned : List (Array UInt16 × Addr) := []
def slotsUsed : Nat := 0
def theMethod : MethodId := ⟨1, 1⟩
def args0 : Array Value := #[.int 5, .int 6, .int 7, .int 8, .int 9]
def aboutOver (below : List Frame) : State where
  vm := { classes := classes, interned := interned.toArray }
  heap := heap
  slotsUsed := slotsUsed
  threads := #[{ frames := .invoking theMethod args0 :: below }]
def below0 : List Frame := [.native { method := ⟨0, 0⟩, args := #[] }]
def about1 : State := aboutOver below0
def p0 : Program := .bare "" "" ""
def e0 : Env := launch0.env 0 0 0
theorem w_frames : about1.frames = Frame.invoking theMethod args0 :: below0 := rfl
set_option maxRecDepth 65536 in
theorem w_args : argsFit about1.vm theMethod args0 = true := by decide +kernel
set_option maxRecDepth 65536 in
theorem w_heap : heapFits about1 = true := by decide +kernel
set_option maxRecDepth 65536 in
theorem w_runnable : about1.curStatus? = some .runnable := by decide +kernel
set_option maxRecDepth 65536 in
theorem w_alone : about1.alone = true := by decide +kernel
set_option maxRecDepth 65536 in
theorem w_named : about1.methodNamed? x = some theMethod := by decide +kernel
set_option maxRecDepth 65536 in
theorem w_hears : about1.hears theMethod below0 = true := by decide +kernel
set_option maxRecDepth 65536 in
theorem w_ripe : about1.ripe theMethod args0 below0 = true := by decide +kernel
theorem w_running : about1.status = .running := rfl
set_option maxRecDepth 65536 in
theorem w_room : about1.hasRoom e0.platform room_1 = true :=
  launch0.hasRoom_least _ room_1 (by decide +kernel) (by decide +kernel) (by decide +kernel) (by decide +kernel) (by decide +kernel) (by decide +kernel)
theorem allAtoms_all (ts : List Jvm.Cond) (a : Array Jvm.Value) (st : Jvm.State) : (allAtoms ts).before a st = ts.all (fun c => c.before a st) := by
  induction ts with
  | nil => rfl
  | cons c t ih =>
    show (Jvm.Cond.and c (allAtoms t)).before a st = _
    rw [Jvm.Cond.before_and, ih, List.all_cons]
def words1 : List Jvm.Cond := Jvm.Cond.code x code maxLocals ret :: tables_1
/-- a 'code' word, met by the world's own term for the bytes: nothing is compared byte by byte -/
theorem code_word {y : MethodName} {bytes : ByteArray} {mx : Nat} {rt : Option FieldType} {a : Array Value} {s : State} {m : MethodId} {meth : Method} {c : Code} (h1 : s.methodNamed? y = some m) (h2 : s.vm.method? m = some meth) (h3 : meth.code = some c) (h4 : c.code = bytes)
    (h5 : (c.maxLocals == mx && c.exceptionTable.isEmpty && decide (c.maxStack ≤ mostOperands) && decide (meth.sig.returnType = rt) && !meth.locks && decide (parseMethodDescriptor y.desc = some meth.sig)) = true) : (Jvm.Cond.code y bytes mx rt).before a s = true := by
  simp only [Bool.and_eq_true, beq_iff_eq, Bool.not_eq_true', decide_eq_true_eq] at h5
  obtain ⟨⟨⟨⟨⟨g1, g2⟩, g3⟩, g4⟩, g5⟩, g6⟩ := h5
  simp [Cond.before, Cond.holds, Cond.value, h1, h2, h3, h4, g1, g2, g3, g4, g5, g6]
def isCode : Jvm.Cond → Bool
  | .code _ _ _ _ => true
  | _ => false
theorem all_split {L : List Jvm.Cond} {P : Jvm.Cond → Bool} (h1 : L.all (fun c => isCode c || P c) = true) (h2 : ∀ c ∈ L.filter isCode, P c = true) : L.all P = true := by
  refine List.all_eq_true.mpr fun c hc => ?_
  have h := List.all_eq_true.mp h1 c hc
  rcases Bool.eq_false_or_eq_true (isCode c) with hi | hi
  · exact h2 c (List.mem_filter.mpr ⟨hc, hi⟩)
  · simpa [hi] using h
set_option maxRecDepth 65536 in
theorem w_c0 : (Jvm.Cond.code x code maxLocals ret).before args0 about1 = true := code_word (m := ⟨1, 1⟩) (meth := k1m1) (c := k1c1) (by decide +kernel) rfl rfl rfl (by decide +kernel)
set_option maxRecDepth 65536 in
theorem w_c1 : (Jvm.Cond.code ({ cls := "com/example/countersign/countersign/core/LinesLineEndPinLaw", name := "draw", desc := "(III)B" } : Jvm.MethodName) method_3_code (3 : Nat) (Option.some Jvm.ClassFile.FieldType.byte)).before args0 about1 = true := code_word (m := ⟨1, 2⟩) (meth := k1m2) (c := k1c2) (by decide +kernel) rfl rfl rfl (by decide +kernel)
set_option maxRecDepth 65536 in
theorem w_c2 : (Jvm.Cond.code ({ cls := "java/lang/Math", name := "min", desc := "(II)I" } : Jvm.MethodName) jdk_29_method_69_code (2 : Nat) (Option.some Jvm.ClassFile.FieldType.int)).before args0 about1 = true := code_word (m := ⟨2, 2⟩) (meth := k2m2) (c := k2c2) (by decide +kernel) rfl rfl rfl (by decide +kernel)
set_option maxRecDepth 65536 in
theorem w_c3 : (Jvm.Cond.code ({ cls := "java/lang/Math", name := "max", desc := "(II)I" } : Jvm.MethodName) jdk_29_method_65_code (2 : Nat) (Option.some Jvm.ClassFile.FieldType.int)).before args0 about1 = true := code_word (m := ⟨2, 1⟩) (meth := k2m1) (c := k2c1) (by decide +kernel) rfl rfl rfl (by decide +kernel)
set_option maxRecDepth 65536 in
theorem w_c4 : (Jvm.Cond.code ({ cls := "com/example/countersign/countersign/core/LinesLineEndPinLaw", name := "pick", desc := "([BIIII)I" } : Jvm.MethodName) method_4_code (5 : Nat) (Option.some Jvm.ClassFile.FieldType.int)).before args0 about1 = true := code_word (m := ⟨1, 3⟩) (meth := k1m3) (c := k1c3) (by decide +kernel) rfl rfl rfl (by decide +kernel)
set_option maxRecDepth 65536 in
theorem w_c5 : (Jvm.Cond.code ({ cls := "com/example/countersign/countersign/core/Lines", name := "lineEnd", desc := "([BII)I" } : Jvm.MethodName) prog_7_method_2_code (4 : Nat) (Option.some Jvm.ClassFile.FieldType.int)).before args0 about1 = true := code_word (m := ⟨10, 0⟩) (meth := k10m0) (c := k10c0) (by decide +kernel) rfl rfl rfl (by decide +kernel)
def codes1 : List Jvm.Cond := [Jvm.Cond.code x code maxLocals ret, Jvm.Cond.code ({ cls := "com/example/countersign/countersign/core/LinesLineEndPinLaw", name := "draw", desc := "(III)B" } : Jvm.MethodName) method_3_code (3 : Nat) (Option.some Jvm.ClassFile.FieldType.byte), Jvm.Cond.code ({ cls := "java/lang/Math", name := "min", desc := "(II)I" } : Jvm.MethodName) jdk_29_method_69_code (2 : Nat) (Option.some Jvm.ClassFile.FieldType.int), Jvm.Cond.code ({ cls := "java/lang/Math", name := "max", desc := "(II)I" } : Jvm.MethodName) jdk_29_method_65_code (2 : Nat) (Option.some Jvm.ClassFile.FieldType.int), Jvm.Cond.code ({ cls := "com/example/countersign/countersign/core/LinesLineEndPinLaw", name := "pick", desc := "([BIIII)I" } : Jvm.MethodName) method_4_code (5 : Nat) (Option.some Jvm.ClassFile.FieldType.int), Jvm.Cond.code ({ cls := "com/example/countersign/countersign/core/Lines", name := "lineEnd", desc := "([BII)I" } : Jvm.MethodName) prog_7_method_2_code (4 : Nat) (Option.some Jvm.ClassFile.FieldType.int)]
set_option maxRecDepth 65536 in
theorem codes_eq : words1.filter isCode = codes1 := rfl
theorem w_codes : ∀ c ∈ words1.filter isCode, c.before args0 about1 = true := by
  rw [codes_eq]
  intro c hc
  simp only [codes1, List.mem_cons, List.not_mem_nil, or_false] at hc
  rcases hc with rfl | rfl | rfl | rfl | rfl | rfl
  · exact w_c0
  · exact w_c1
  · exact w_c2
  · exact w_c3
  · exact w_c4
  · exact w_c5
set_option maxRecDepth 65536 in
theorem w_t1 : words1.all (fun c => isCode c || c.before args0 about1) = true := by decide +kernel
theorem w_tables : (allAtoms (Jvm.Cond.code x code maxLocals ret :: tables_1)).before args0 about1 = true := by
  rw [allAtoms_all]
  show words1.all (fun c => c.before args0 about1) = true
  refine all_split ?_ w_codes
  rw [w_t1]
set_option maxRecDepth 65536 in
theorem w_case : (Jvm.Cond.and given_1 narrow_1).before args0 about1 = true := by decide +kernel
theorem w_applies : (headSpec (Jvm.Cond.code x code maxLocals ret :: tables_1) room_1).applies x e0.platform about1 = true :=
  (Spec.applies_iff w_frames).mpr ⟨w_running, w_runnable, w_alone, w_named, w_hears, w_ripe, w_room, w_tables⟩
theorem atStart : AtStart classFile x code maxLocals ret World_1 tables_1 room_1 Calls_1 rest_1 Pre_1 launch0 p0 e0 about1 theMethod args0 below0 :=
  ⟨lists_1, trivial, launch0.admits_env _ _ _, launch0.least_env, fairChoices_fair.cas, fairChoices_fair.clock, w_frames, w_args, w_heap, w_applies, trivial, trivial, w_case⟩
end start1
theorem witness_1 : WitnessClaimed_1 := ⟨start1.p0, start1.e0, start1.about1, start1.theMethod, start1.args0, start1.below0, start1.atStart⟩
end Jvm.Pilot.@@N@@
