import JvmDerived
import JvmDerived.Pilot.@@N@@Statement
import JvmDerived.Pilot.@@N@@Code
set_option linter.unusedVariables false
set_option linter.unusedSimpArgs false
@@BLOCK:NumsL.lean.txt@@
namespace Jvm.RoadKit
open Sem ClassFile Op Lib Jvm.Stand Jvm.Free Jvm.LawKit
section New
variable {p : Program} {l : Launch} {e : Env} {R : Room} {s : State} {m : MethodId} {args : Array Value} {below : List Frame} {meth : Method} {c : Code} {T : State} {locs : List Loc} {cells slots : Nat}
theorem retI (X : Stand p l e R s m args below meth c T locs cells slots) (hx : p.tables.exec = Jvm.exec) {pc : Nat} {Ls : Array Slot} {z : Int32} {rest : List Value} (hret : meth.sig.returnType = some .int) (hd : decode c.code pc = .ok (.ireturn, 1)) {fs : List Frame}
    (hl : ∀ (f : JFrame) (acts : List Action), f.method = m → f.locked = none → f.entered = [] → (doReturn e (T.setTop f) acts (some (.int z))).1 = T.setFrames fs) : Steps p.tables e below (T.setTop (mkF m pc Ls (.int z :: rest))) (T.setFrames fs) := by
  have hm' : T.vm.method? m = some meth := X.method'
  have hn : narrow .int (.int z) = .int z := rfl
  show Steps p.tables e below (T.setTop { method := m, pc := pc, locals := Ls, stack := _ :: rest, locked := none }) _
  jvm_step X.here [X.here.top, hx, hd, hm', hret, hn]
  first | (intro acts; rw [hl _ acts rfl rfl rfl]) | rw [hl _ _ rfl rfl rfl]
  exact Steps.refl _
end New
end Jvm.RoadKit
namespace Jvm.Pilot.@@N@@
open Jvm Jvm.ClassFile Sem Op Lib Jvm.Free Jvm.Stand Jvm.LawKit Jvm.RoadKit Bundle Jvm.Pilot.@@N@@.Jvm.D
def Qv (r : Value) (h0 : Heap) (n0 : Nat) (v : Option Value) (h : Heap) (L : List Loc) : Prop := v = some r ∧ Fr n0 L ∧ h = h0
theorem d1_0 : decode prog_3_method_4_code 0 = .ok (.dload_n 0, 1) := by decide +kernel
theorem d1_1 : decode prog_3_method_4_code 1 = .ok (.dconst 1, 1) := by decide +kernel
theorem d1_2 : decode prog_3_method_4_code 2 = .ok (.dcmp .l, 1) := by decide +kernel
theorem d1_3 : decode prog_3_method_4_code 3 = .ok (.ifCond .ne 7, 3) := by decide +kernel
theorem d1_6 : decode prog_3_method_4_code 6 = .ok (.getstatic 3, 3) := by decide +kernel
theorem d1_9 : decode prog_3_method_4_code 9 = .ok (.areturn, 1) := by decide +kernel
theorem pn_1 : plainName "com/example/trailplan/trailplan/cli/Measure" = true := by first | (simp [plainName, overriddenIn]; done) | decide +kernel
theorem ef_1 (m : MethodId) (x0 : UInt64) : entryFrame m #[(.double x0)] 2 = mkF m 0 #[.val (.double x0), .second] [] := by first | (simp [entryFrame, mkF, argsToLocals, Value.category]; done) | rfl
set_option maxRecDepth 65536 in
set_option maxHeartbeats 40000000 in
theorem rm1_f (l : Launch) (Z : State) (a0 : Array Value) (hw : ∀ d ∈ tables_1, d.before a0 Z = true) (ws : List Jvm.Cond) (f1 : UInt64) (w2 : Addr) (h0 : Heap) (n0 : Nat) (Z0 : n0 ≤ h0.size) (S_MAKESPAN : Sta Z h0 "com/example/trailplan/trailplan/cli/Measure" "MAKESPAN" "Lcom/example/trailplan/trailplan/cli/Measure;" (.ref w2)) (hc3 : (cmpValue (FP.dcmp f1 FP.dconst1) .l) = (0 : Int32)) :
    MetFree l (⟨"com/example/trailplan/trailplan/cli/Measure", "at", "(D)Lcom/example/trailplan/trailplan/cli/Measure;"⟩ : MethodName) (head1 (Jvm.Cond.code (⟨"com/example/trailplan/trailplan/cli/Measure", "at", "(D)Lcom/example/trailplan/trailplan/cli/Measure;"⟩ : MethodName) prog_3_method_4_code 2 (some (.object "com/example/trailplan/trailplan/cli/Measure")) :: ws) ({ frames := 0, cells := 0, slots := 0, locals := 0 } : Room)) (fun a U => a = #[(.double f1)] ∧ Z.Warmed39 U.vm ∧ U.heap = h0) (fun _ _ _ _ _ => True) (fun _ U o U' => ∃ v L, o = .returned v ∧ Qv (.ref w2) h0 n0 v U'.heap L ∧ FrameEnd U o U' L ({ frames := 0, cells := 0, slots := 0, locals := 0 } : Room).cells ({ frames := 0, cells := 0, slots := 0, locals := 0 } : Room).slots) := by
  refine MetFree.of_bodySF (plainFor_of_name pn_1) hisR ?_
  intro p e s m args below meth c s₁ Bd hml0 hP hK
  obtain ⟨rfl, hZ, hh⟩ := hP
  have hx := Bd.exec
  have hby := Bd.bytes
  have hml : c.maxLocals = 2 := hml0
  have hown : s.vm.findClass "com/example/trailplan/trailplan/cli/Measure" = some m.cls := findClass_of_methodNamed Bd.named
  have hnm := (name_of_methodNamed Bd.named Bd.method).1
  have X0 : Stand p l e ({ frames := 0, cells := 0, slots := 0, locals := 0 } : Room) s m #[(.double f1)] below meth c s₁ [] 0 0 := Stand.of_body Bd
  have e0 : s₁.heap = h0 := by rw [← hh, Bd.state]; rfl
  have N0 := Fr.nil n0
  have pre0 : ∀ t, Steps p.tables e below (s₁.setTop (mkF m 0 #[.val (.double f1), .second] [])) t → Steps p.tables e below (s₁.setTop (entryFrame m #[(.double f1)] 2)) t := fun t k => castTop (ef_1 m f1) k
  obtain ⟨T3, X3, e3, st3⟩ := getS2 X0 hx hZ hown (host := "") (Or.inl (hw _ (List.mem_of_getElem? (i := 8) rfl))) Via.refl e0 S_MAKESPAN (g := (mkF m 6 #[.val (.double f1), .second] [])) rfl (hb hby d1_6)
  obtain ⟨fs, hr, hrun, hended, hW, hsame⟩ := X3.leave (v := some (.ref w2)) (fun h => by rw [Bd.returns] at h; cases h)
  refine ⟨_, _, pre0 _ ?_, hrun, hended, _, _, rfl, ?_, ⟨_, rfl⟩, hW, hsame.mono (by decide) (by decide)⟩
  · show Steps p.tables e below (s₁.setTop (mkF m 0 #[.val (.double f1), .second] [])) _
    refine XS.dloadN X0.here hx rfl (hb hby d1_0) rfl ?_
    show Steps p.tables e below (s₁.setTop (mkF m 1 #[.val (.double f1), .second] [(.double f1)])) _
    refine XS.dconst1 X0.here hx rfl (hb hby d1_1) rfl ?_
    show Steps p.tables e below (s₁.setTop (mkF m 2 #[.val (.double f1), .second] [(.double FP.dconst1), (.double f1)])) _
    refine XS.dcmpS X0.here hx rfl (hb hby d1_2) rfl rfl ?_
    show Steps p.tables e below (s₁.setTop (mkF m 3 #[.val (.double f1), .second] [(.int (cmpValue (FP.dcmp f1 FP.dconst1) .l))])) _
    refine XS.ifNo X0.here hx rfl (hb hby d1_3) rfl ((if0 _ _).trans (teq hc3).2) ?_
    show Steps p.tables e below (s₁.setTop (mkF m 6 #[.val (.double f1), .second] [])) _
    refine st3 _ ?_
    show Steps p.tables e below (T3.setTop (mkF m 9 #[.val (.double f1), .second] [(.ref w2)])) _
    jvm_step X3.here [X3.here.top, hx, (hb hby d1_9), X3.method', Bd.returns, Value.isRef, FieldType.isReference]
    first | (intro acts; rw [hr _ acts rfl rfl rfl]) | rw [hr _ _ rfl rfl rfl]
    exact Steps.refl _
  · show Qv (.ref w2) h0 n0 _ T3.heap _
    rw [e3]
    exact ⟨rfl, N0, rfl⟩
theorem d1_10 : decode prog_3_method_4_code 10 = .ok (.dload_n 0, 1) := by decide +kernel
theorem d1_11 : decode prog_3_method_4_code 11 = .ok (.dconst 0, 1) := by decide +kernel
theorem d1_12 : decode prog_3_method_4_code 12 = .ok (.dcmp .l, 1) := by decide +kernel
theorem d1_13 : decode prog_3_method_4_code 13 = .ok (.ifCond .ne 9, 3) := by decide +kernel
theorem d1_16 : decode prog_3_method_4_code 16 = .ok (.getstatic 7, 3) := by decide +kernel
theorem d1_19 : decode prog_3_method_4_code 19 = .ok (.goto 6, 3) := by decide +kernel
theorem d1_25 : decode prog_3_method_4_code 25 = .ok (.areturn, 1) := by decide +kernel
set_option maxRecDepth 65536 in
set_option maxHeartbeats 40000000 in
theorem rm1_tf (l : Launch) (Z : State) (a0 : Array Value) (hw : ∀ d ∈ tables_1, d.before a0 Z = true) (ws : List Jvm.Cond) (f1 : UInt64) (w2 : Addr) (h0 : Heap) (n0 : Nat) (Z0 : n0 ≤ h0.size) (S_COST : Sta Z h0 "com/example/trailplan/trailplan/cli/Measure" "COST" "Lcom/example/trailplan/trailplan/cli/Measure;" (.ref w2)) (hc3 : ¬ ((cmpValue (FP.dcmp f1 FP.dconst1) .l) = (0 : Int32))) (hc13 : (cmpValue (FP.dcmp f1 FP.dconst0) .l) = (0 : Int32)) :
    MetFree l (⟨"com/example/trailplan/trailplan/cli/Measure", "at", "(D)Lcom/example/trailplan/trailplan/cli/Measure;"⟩ : MethodName) (head1 (Jvm.Cond.code (⟨"com/example/trailplan/trailplan/cli/Measure", "at", "(D)Lcom/example/trailplan/trailplan/cli/Measure;"⟩ : MethodName) prog_3_method_4_code 2 (some (.object "com/example/trailplan/trailplan/cli/Measure")) :: ws) ({ frames := 0, cells := 0, slots := 0, locals := 0 } : Room)) (fun a U => a = #[(.double f1)] ∧ Z.Warmed39 U.vm ∧ U.heap = h0) (fun _ _ _ _ _ => True) (fun _ U o U' => ∃ v L, o = .returned v ∧ Qv (.ref w2) h0 n0 v U'.heap L ∧ FrameEnd U o U' L ({ frames := 0, cells := 0, slots := 0, locals := 0 } : Room).cells ({ frames := 0, cells := 0, slots := 0, locals := 0 } : Room).slots) := by
  refine MetFree.of_bodySF (plainFor_of_name pn_1) hisR ?_
  intro p e s m args below meth c s₁ Bd hml0 hP hK
  obtain ⟨rfl, hZ, hh⟩ := hP
  have hx := Bd.exec
  have hby := Bd.bytes
  have hml : c.maxLocals = 2 := hml0
  have hown : s.vm.findClass "com/example/trailplan/trailplan/cli/Measure" = some m.cls := findClass_of_methodNamed Bd.named
  have hnm := (name_of_methodNamed Bd.named Bd.method).1
  have X0 : Stand p l e ({ frames := 0, cells := 0, slots := 0, locals := 0 } : Room) s m #[(.double f1)] below meth c s₁ [] 0 0 := Stand.of_body Bd
  have e0 : s₁.heap = h0 := by rw [← hh, Bd.state]; rfl
  have N0 := Fr.nil n0
  have pre0 : ∀ t, Steps p.tables e below (s₁.setTop (mkF m 0 #[.val (.double f1), .second] [])) t → Steps p.tables e below (s₁.setTop (entryFrame m #[(.double f1)] 2)) t := fun t k => castTop (ef_1 m f1) k
  obtain ⟨T3, X3, e3, st3⟩ := getS2 X0 hx hZ hown (host := "") (Or.inl (hw _ (List.mem_of_getElem? (i := 5) rfl))) Via.refl e0 S_COST (g := (mkF m 16 #[.val (.double f1), .second] [])) rfl (hb hby d1_16)
  obtain ⟨fs, hr, hrun, hended, hW, hsame⟩ := X3.leave (v := some (.ref w2)) (fun h => by rw [Bd.returns] at h; cases h)
  refine ⟨_, _, pre0 _ ?_, hrun, hended, _, _, rfl, ?_, ⟨_, rfl⟩, hW, hsame.mono (by decide) (by decide)⟩
  · show Steps p.tables e below (s₁.setTop (mkF m 0 #[.val (.double f1), .second] [])) _
    refine XS.dloadN X0.here hx rfl (hb hby d1_0) rfl ?_
    show Steps p.tables e below (s₁.setTop (mkF m 1 #[.val (.double f1), .second] [(.double f1)])) _
    refine XS.dconst1 X0.here hx rfl (hb hby d1_1) rfl ?_
    show Steps p.tables e below (s₁.setTop (mkF m 2 #[.val (.double f1), .second] [(.double FP.dconst1), (.double f1)])) _
    refine XS.dcmpS X0.here hx rfl (hb hby d1_2) rfl rfl ?_
    show Steps p.tables e below (s₁.setTop (mkF m 3 #[.val (.double f1), .second] [(.int (cmpValue (FP.dcmp f1 FP.dconst1) .l))])) _
    refine XS.ifYes X0.here hx rfl (pc0 := 3) (pc' := 10) rfl (hb hby d1_3) rfl ((if0 _ _).trans (feq hc3).2) (by decide) (by decide) ?_
    show Steps p.tables e below (s₁.setTop (mkF m 10 #[.val (.double f1), .second] [])) _
    refine XS.dloadN X0.here hx rfl (hb hby d1_10) rfl ?_
    show Steps p.tables e below (s₁.setTop (mkF m 11 #[.val (.double f1), .second] [(.double f1)])) _
    refine XS.dconst0 X0.here hx rfl (hb hby d1_11) rfl ?_
    show Steps p.tables e below (s₁.setTop (mkF m 12 #[.val (.double f1), .second] [(.double FP.dconst0), (.double f1)])) _
    refine XS.dcmpS X0.here hx rfl (hb hby d1_12) rfl rfl ?_
    show Steps p.tables e below (s₁.setTop (mkF m 13 #[.val (.double f1), .second] [(.int (cmpValue (FP.dcmp f1 FP.dconst0) .l))])) _
    refine XS.ifNo X0.here hx rfl (hb hby d1_13) rfl ((if0 _ _).trans (teq hc13).2) ?_
    show Steps p.tables e below (s₁.setTop (mkF m 16 #[.val (.double f1), .second] [])) _
    refine st3 _ ?_
    show Steps p.tables e below (T3.setTop (mkF m 19 #[.val (.double f1), .second] [(.ref w2)])) _
    refine XS.goto X3.here hx rfl (pc0 := 19) (pc' := 25) rfl (hb hby d1_19) (by decide) (by decide) ?_
    show Steps p.tables e below (T3.setTop (mkF m 25 #[.val (.double f1), .second] [(.ref w2)])) _
    jvm_step X3.here [X3.here.top, hx, (hb hby d1_25), X3.method', Bd.returns, Value.isRef, FieldType.isReference]
    first | (intro acts; rw [hr _ acts rfl rfl rfl]) | rw [hr _ _ rfl rfl rfl]
    exact Steps.refl _
  · show Qv (.ref w2) h0 n0 _ T3.heap _
    rw [e3]
    exact ⟨rfl, N0, rfl⟩
theorem d1_22 : decode prog_3_method_4_code 22 = .ok (.getstatic 10, 3) := by decide +kernel
set_option maxRecDepth 65536 in
set_option maxHeartbeats 40000000 in
theorem rm1_tt (l : Launch) (Z : State) (a0 : Array Value) (hw : ∀ d ∈ tables_1, d.before a0 Z = true) (ws : List Jvm.Cond) (f1 : UInt64) (w2 : Addr) (h0 : Heap) (n0 : Nat) (Z0 : n0 ≤ h0.size) (S_OBJECTIVE : Sta Z h0 "com/example/trailplan/trailplan/cli/Measure" "OBJECTIVE" "Lcom/example/trailplan/trailplan/cli/Measure;" (.ref w2)) (hc3 : ¬ ((cmpValue (FP.dcmp f1 FP.dconst1) .l) = (0 : Int32))) (hc13 : ¬ ((cmpValue (FP.dcmp f1 FP.dconst0) .l) = (0 : Int32))) :
    MetFree l (⟨"com/example/trailplan/trailplan/cli/Measure", "at", "(D)Lcom/example/trailplan/trailplan/cli/Measure;"⟩ : MethodName) (head1 (Jvm.Cond.code (⟨"com/example/trailplan/trailplan/cli/Measure", "at", "(D)Lcom/example/trailplan/trailplan/cli/Measure;"⟩ : MethodName) prog_3_method_4_code 2 (some (.object "com/example/trailplan/trailplan/cli/Measure")) :: ws) ({ frames := 0, cells := 0, slots := 0, locals := 0 } : Room)) (fun a U => a = #[(.double f1)] ∧ Z.Warmed39 U.vm ∧ U.heap = h0) (fun _ _ _ _ _ => True) (fun _ U o U' => ∃ v L, o = .returned v ∧ Qv (.ref w2) h0 n0 v U'.heap L ∧ FrameEnd U o U' L ({ frames := 0, cells := 0, slots := 0, locals := 0 } : Room).cells ({ frames := 0, cells := 0, slots := 0, locals := 0 } : Room).slots) := by
  refine MetFree.of_bodySF (plainFor_of_name pn_1) hisR ?_
  intro p e s m args below meth c s₁ Bd hml0 hP hK
  obtain ⟨rfl, hZ, hh⟩ := hP
  have hx := Bd.exec
  have hby := Bd.bytes
  have hml : c.maxLocals = 2 := hml0
  have hown : s.vm.findClass "com/example/trailplan/trailplan/cli/Measure" = some m.cls := findClass_of_methodNamed Bd.named
  have hnm := (name_of_methodNamed Bd.named Bd.method).1
  have X0 : Stand p l e ({ frames := 0, cells := 0, slots := 0, locals := 0 } : Room) s m #[(.double f1)] below meth c s₁ [] 0 0 := Stand.of_body Bd
  have e0 : s₁.heap = h0 := by rw [← hh, Bd.state]; rfl
  have N0 := Fr.nil n0
  have pre0 : ∀ t, Steps p.tables e below (s₁.setTop (mkF m 0 #[.val (.double f1), .second] [])) t → Steps p.tables e below (s₁.setTop (entryFrame m #[(.double f1)] 2)) t := fun t k => castTop (ef_1 m f1) k
  obtain ⟨T3, X3, e3, st3⟩ := getS2 X0 hx hZ hown (host := "") (Or.inl (hw _ (List.mem_of_getElem? (i := 11) rfl))) Via.refl e0 S_OBJECTIVE (g := (mkF m 22 #[.val (.double f1), .second] [])) rfl (hb hby d1_22)
  obtain ⟨fs, hr, hrun, hended, hW, hsame⟩ := X3.leave (v := some (.ref w2)) (fun h => by rw [Bd.returns] at h; cases h)
  refine ⟨_, _, pre0 _ ?_, hrun, hended, _, _, rfl, ?_, ⟨_, rfl⟩, hW, hsame.mono (by decide) (by decide)⟩
  · show Steps p.tables e below (s₁.setTop (mkF m 0 #[.val (.double f1), .second] [])) _
    refine XS.dloadN X0.here hx rfl (hb hby d1_0) rfl ?_
    show Steps p.tables e below (s₁.setTop (mkF m 1 #[.val (.double f1), .second] [(.double f1)])) _
    refine XS.dconst1 X0.here hx rfl (hb hby d1_1) rfl ?_
    show Steps p.tables e below (s₁.setTop (mkF m 2 #[.val (.double f1), .second] [(.double FP.dconst1), (.double f1)])) _
    refine XS.dcmpS X0.here hx rfl (hb hby d1_2) rfl rfl ?_
    show Steps p.tables e below (s₁.setTop (mkF m 3 #[.val (.double f1), .second] [(.int (cmpValue (FP.dcmp f1 FP.dconst1) .l))])) _
    refine XS.ifYes X0.here hx rfl (pc0 := 3) (pc' := 10) rfl (hb hby d1_3) rfl ((if0 _ _).trans (feq hc3).2) (by decide) (by decide) ?_
    show Steps p.tables e below (s₁.setTop (mkF m 10 #[.val (.double f1), .second] [])) _
    refine XS.dloadN X0.here hx rfl (hb hby d1_10) rfl ?_
    show Steps p.tables e below (s₁.setTop (mkF m 11 #[.val (.double f1), .second] [(.double f1)])) _
    refine XS.dconst0 X0.here hx rfl (hb hby d1_11) rfl ?_
    show Steps p.tables e below (s₁.setTop (mkF m 12 #[.val (.double f1), .second] [(.double FP.dconst0), (.double f1)])) _
    refine XS.dcmpS X0.here hx rfl (hb hby d1_12) rfl rfl ?_
    show Steps p.tables e below (s₁.setTop (mkF m 13 #[.val (.double f1), .second] [(.int (cmpValue (FP.dcmp f1 FP.dconst0) .l))])) _
    refine XS.ifYes X0.here hx rfl (pc0 := 13) (pc' := 22) rfl (hb hby d1_13) rfl ((if0 _ _).trans (feq hc13).2) (by decide) (by decide) ?_
    show Steps p.tables e below (s₁.setTop (mkF m 22 #[.val (.double f1), .second] [])) _
    refine st3 _ ?_
    show Steps p.tables e below (T3.setTop (mkF m 25 #[.val (.double f1), .second] [(.ref w2)])) _
    jvm_step X3.here [X3.here.top, hx, (hb hby d1_25), X3.method', Bd.returns, Value.isRef, FieldType.isReference]
    first | (intro acts; rw [hr _ acts rfl rfl rfl]) | rw [hr _ _ rfl rfl rfl]
    exact Steps.refl _
  · show Qv (.ref w2) h0 n0 _ T3.heap _
    rw [e3]
    exact ⟨rfl, N0, rfl⟩
def own_at (aM aC aO : Addr) (w : UInt64) : Addr := if cmpValue (FP.dcmp w FP.dconst1) .l = (0 : Int32) then aM else if cmpValue (FP.dcmp w FP.dconst0) .l = (0 : Int32) then aC else aO
theorem rm1 (l : Launch) (Z : State) (a0 : Array Value) (hw : ∀ d ∈ tables_1, d.before a0 Z = true) (ws : List Jvm.Cond) (f1 : UInt64) (aM aC aO : Addr) (h0 : Heap) (n0 : Nat) (Z0 : n0 ≤ h0.size) (S_MAKESPAN : Sta Z h0 "com/example/trailplan/trailplan/cli/Measure" "MAKESPAN" "Lcom/example/trailplan/trailplan/cli/Measure;" (.ref aM)) (S_COST : Sta Z h0 "com/example/trailplan/trailplan/cli/Measure" "COST" "Lcom/example/trailplan/trailplan/cli/Measure;" (.ref aC)) (S_OBJECTIVE : Sta Z h0 "com/example/trailplan/trailplan/cli/Measure" "OBJECTIVE" "Lcom/example/trailplan/trailplan/cli/Measure;" (.ref aO)) :
    MetFree l (⟨"com/example/trailplan/trailplan/cli/Measure", "at", "(D)Lcom/example/trailplan/trailplan/cli/Measure;"⟩ : MethodName) (head1 (Jvm.Cond.code (⟨"com/example/trailplan/trailplan/cli/Measure", "at", "(D)Lcom/example/trailplan/trailplan/cli/Measure;"⟩ : MethodName) prog_3_method_4_code 2 (some (.object "com/example/trailplan/trailplan/cli/Measure")) :: ws) ({ frames := 0, cells := 0, slots := 0, locals := 0 } : Room)) (fun a U => a = #[(.double f1)] ∧ Z.Warmed39 U.vm ∧ U.heap = h0) (fun _ _ _ _ _ => True) (fun _ U o U' => ∃ v L, o = .returned v ∧ Qv (.ref (own_at aM aC aO f1)) h0 n0 v U'.heap L ∧ FrameEnd U o U' L ({ frames := 0, cells := 0, slots := 0, locals := 0 } : Room).cells ({ frames := 0, cells := 0, slots := 0, locals := 0 } : Room).slots) := by
  by_cases hc3 : cmpValue (FP.dcmp f1 FP.dconst1) .l = (0 : Int32)
  · rw [own_at, if_pos hc3]; exact rm1_f l Z a0 hw ws f1 aM h0 n0 Z0 S_MAKESPAN hc3
  · by_cases hc13 : cmpValue (FP.dcmp f1 FP.dconst0) .l = (0 : Int32)
    · rw [own_at, if_neg hc3, if_pos hc13]; exact rm1_tf l Z a0 hw ws f1 aC h0 n0 Z0 S_COST hc3 hc13
    · rw [own_at, if_neg hc3, if_neg hc13]; exact rm1_tt l Z a0 hw ws f1 aO h0 n0 Z0 S_OBJECTIVE hc3 hc13
def own_d (p2 : Int32) : Int32 := ((p2 &&& (7 : Int32)) + (1 : Int32))
def own_k (p1 p2 : Int32) : Int32 := ((p1 &&& (2147483647 : Int32)) - ((p1 &&& (2147483647 : Int32)) / ((own_d p2) + (1 : Int32))) * ((own_d p2) + (1 : Int32)))
def own_w (p1 p2 : Int32) : UInt64 := (FP.ddiv (FP.i2d (own_k p1 p2)) (FP.i2d (own_d p2)))
theorem own_table : ∀ d k : Fin 9, 1 ≤ d.val → k.val ≤ d.val → ((FP.ddiv (FP.i2d (Int32.ofNat k.val)) (FP.i2d (Int32.ofNat d.val)) &&& 0x7fffffffffffffff ≤ 0x7ff0000000000000) ∧ (cmpValue (FP.dcmp (FP.ddiv (FP.i2d (Int32.ofNat k.val)) (FP.i2d (Int32.ofNat d.val))) FP.dconst1) .l = (0 : Int32) ↔ k.val = d.val) ∧ (cmpValue (FP.dcmp (FP.ddiv (FP.i2d (Int32.ofNat k.val)) (FP.i2d (Int32.ofNat d.val))) FP.dconst0) .l = (0 : Int32) ↔ k.val = 0)) := by decide +kernel
theorem own_range (p1 p2 : Int32) : ∃ d k : Nat, 1 ≤ d ∧ d < 9 ∧ k ≤ d ∧ own_d p2 = Int32.ofNat d ∧ own_k p1 p2 = Int32.ofNat k := by
  have h7 : (p2 &&& 7).toInt = p2.toInt % 2 ^ 3 := Jvm.Kit.i32_mask p2 7 (k := 3) (by decide) (by decide)
  have hm := Jvm.Kit.i32_mask p1 2147483647 (k := 31) (by decide) (by decide)
  have one : (1 : Int32).toInt = 1 := rfl
  have ed : (own_d p2).toInt = p2.toInt % 2 ^ 3 + 1 := by
    unfold own_d; rw [Jvm.Kit.i32_add (by omega) (by omega), h7, one]
  have ed1 : (own_d p2 + (1 : Int32)).toInt = p2.toInt % 2 ^ 3 + 2 := by
    rw [Jvm.Kit.i32_add (by omega) (by omega), ed, one]; omega
  have ek : (own_k p1 p2).toInt = (p1.toInt % 2 ^ 31) % (p2.toInt % 2 ^ 3 + 2) := by
    unfold own_k
    rw [Jvm.LawKit.rem_toInt, hm, ed1]
    exact Int.tmod_eq_emod_of_nonneg (by omega)
  have k0 : 0 ≤ (p1.toInt % 2 ^ 31) % (p2.toInt % 2 ^ 3 + 2) := Int.emod_nonneg _ (by omega)
  have k1 : (p1.toInt % 2 ^ 31) % (p2.toInt % 2 ^ 3 + 2) < p2.toInt % 2 ^ 3 + 2 := Int.emod_lt_of_pos _ (by omega)
  refine ⟨(own_d p2).toInt.toNat, (own_k p1 p2).toInt.toNat, by omega, by omega, by omega, ?_, ?_⟩
  · apply Int32.toInt_inj.mp; rw [Int32.toInt_ofNat_of_lt (by omega)]; omega
  · apply Int32.toInt_inj.mp; rw [Int32.toInt_ofNat_of_lt (by omega)]; omega
theorem own_inj {a b : Nat} (ha : a < 9) (hb : b < 9) (h : Int32.ofNat a = Int32.ofNat b) : a = b := by
  have q := congrArg Int32.toInt h
  rw [Int32.toInt_ofNat_of_lt (by omega), Int32.toInt_ofNat_of_lt (by omega)] at q; omega
theorem own_facts (p1 p2 : Int32) : Jvm.Free.Fl.NoNaN64 (own_w p1 p2) ∧ ¬ (own_d p2 + (1 : Int32) = (0 : Int32)) ∧ (cmpValue (FP.dcmp (own_w p1 p2) FP.dconst1) .l = (0 : Int32) ↔ own_k p1 p2 = own_d p2) ∧ (cmpValue (FP.dcmp (own_w p1 p2) FP.dconst0) .l = (0 : Int32) ↔ own_k p1 p2 = (0 : Int32)) := by
  obtain ⟨d, k, h1, h2, h3, e1, e2⟩ := own_range p1 p2
  obtain ⟨t1, t2, t3⟩ := own_table ⟨d, h2⟩ ⟨k, by omega⟩ h1 h3
  refine ⟨?_, ?_, ?_, ?_⟩
  · unfold own_w; rw [e1, e2]; exact t1
  · rw [e1, show (1 : Int32) = Int32.ofNat 1 from rfl, ← Int32.ofNat_add]
    intro q
    have q := congrArg Int32.toInt q
    rw [Int32.toInt_ofNat_of_lt (by omega)] at q
    have z : (0 : Int32).toInt = 0 := rfl
    omega
  · unfold own_w; rw [e1, e2]; exact t2.trans ⟨fun q => by rw [show k = d from q], fun q => own_inj (by omega) (by omega) q⟩
  · unfold own_w; rw [e1, e2]; exact t3.trans ⟨fun q => by rw [show k = 0 from q]; rfl, fun q => own_inj (by omega) (by omega) (q.trans (show (0 : Int32) = Int32.ofNat 0 from rfl))⟩
theorem pn_0 : plainName "com/example/trailplan/trailplan/cli/MeasureAtPinLaw" = true := by first | (simp [plainName, overriddenIn]; done) | decide +kernel
theorem pdx_0 : parseMethodDescriptor "(D)Lcom/example/trailplan/trailplan/cli/Measure;" = some ⟨[.double], some (.object "com/example/trailplan/trailplan/cli/Measure")⟩ := by decide +kernel
theorem ef_0 (m : MethodId) (x0 : Int32) (x1 : Int32) : entryFrame m #[(.int x0), (.int x1)] maxLocals = mkF m 0 #[.val (.int x0), .val (.int x1), .unset, .unset, .unset, .unset, .unset, .unset] [] := by first | (simp [entryFrame, mkF, argsToLocals, Value.category, maxLocals]; done) | rfl
def Q0 (Z : State) (p1 : Int32) (p2 : Int32) (h0 : Heap) (n0 : Nat) (v : Option Value) (h : Heap) (L : List Loc) : Prop := v = some (.int (1 : Int32)) ∧ Fr n0 L
set_option maxRecDepth 65536 in
set_option maxHeartbeats 40000000 in
theorem rm0_a (l : Launch) (Z : State) (a0 : Array Value) (hw : ∀ d ∈ tables_1, d.before a0 Z = true) (ws : List Jvm.Cond) (p1 : Int32) (p2 : Int32) (aM aC aO : Addr) (h0 : Heap) (n0 : Nat) (Z0 : n0 ≤ h0.size) (S_MAKESPAN : Sta Z h0 "com/example/trailplan/trailplan/cli/Measure" "MAKESPAN" "Lcom/example/trailplan/trailplan/cli/Measure;" (.ref aM)) (S_COST : Sta Z h0 "com/example/trailplan/trailplan/cli/Measure" "COST" "Lcom/example/trailplan/trailplan/cli/Measure;" (.ref aC)) (S_OBJECTIVE : Sta Z h0 "com/example/trailplan/trailplan/cli/Measure" "OBJECTIVE" "Lcom/example/trailplan/trailplan/cli/Measure;" (.ref aO)) (hnz14 : ¬ (((own_d p2) + (1 : Int32)) = (0 : Int32))) (hnn20 : Jvm.Free.Fl.NoNaN64 (own_w p1 p2)) (hc32 : (own_k p1 p2) = (own_d p2)) (ha64 : own_at aM aC aO (own_w p1 p2) = aM) :
    MetFree l x (head1 (Jvm.Cond.code x code maxLocals ret :: ws) room_1) (fun a U => a = #[(.int p1), (.int p2)] ∧ Z.Warmed39 U.vm ∧ U.heap = h0) (fun _ _ _ _ _ => True) (fun _ U o U' => ∃ v L, o = .returned v ∧ Q0 Z p1 p2 h0 n0 v U'.heap L ∧ FrameEnd U o U' L room_1.cells room_1.slots) := by
  refine MetFree.of_bodySF (plainFor_of_name pn_0) hisR ?_
  intro p e s m args below meth c s₁ Bd hml0 hP hK
  obtain ⟨rfl, hZ, hh⟩ := hP
  have hx := Bd.exec
  have hby := Bd.bytes
  have hml : c.maxLocals = 8 := hml0
  have hown : s.vm.findClass "com/example/trailplan/trailplan/cli/MeasureAtPinLaw" = some m.cls := findClass_of_methodNamed Bd.named
  have hnm := (name_of_methodNamed Bd.named Bd.method).1
  have X0 : Stand p l e room_1 s m #[(.int p1), (.int p2)] below meth c s₁ [] 0 0 := Stand.of_body Bd
  have e0 : s₁.heap = h0 := by rw [← hh, Bd.state]; rfl
  have N0 := Fr.nil n0
  have pre0 : ∀ t, Steps p.tables e below (s₁.setTop (mkF m 0 #[.val (.int p1), .val (.int p2), .unset, .unset, .unset, .unset, .unset, .unset] [])) t → Steps p.tables e below (s₁.setTop (entryFrame m #[(.int p1), (.int p2)] maxLocals)) t := fun t k => castTop (ef_0 m p1 p2) k
  obtain ⟨_, _, ⟨T3, L3, k3, n3⟩, -, X3, ⟨Lc3, hQ3, l3, y3, z3⟩, st3⟩ := Jvm.LawKit.callS X0 hx (y := (⟨"com/example/trailplan/trailplan/cli/Measure", "at", "(D)Lcom/example/trailplan/trailplan/cli/Measure;"⟩ : MethodName)) hown (mvT hZ (hw _ (List.mem_of_getElem? (i := 1) rfl))) (mvT hZ (hw _ (List.mem_of_getElem? (i := 2) rfl))) (mvT hZ (hw _ (List.mem_of_getElem? (i := 3) rfl))) (mvT hZ (hw _ (List.mem_of_getElem? (i := 4) rfl))) (by decide) (backOf (W := 0) (rm1 l Z a0 hw [] (own_w p1 p2) aM aC aO h0 n0 Z0 S_MAKESPAN S_COST S_OBJECTIVE) hZ (hw _ (List.mem_of_getElem? (i := 4) rfl)) (hw _ (List.mem_of_getElem? (i := 3) rfl)) (by decide) (by decide)) (g := (mkF m 25 #[.val (.int p1), .val (.int p2), .val (.int (own_d p2)), .val (.int (own_k p1 p2)), .val (.double (own_w p1 p2)), .second, .unset, .unset] [(.double (own_w p1 p2))])) rfl (by rw [hml]; rfl) (argsL := [(.double (own_w p1 p2))]) (rest := []) (lenOf pdx_0 rfl) rfl (by show 2 * 0 + _ ≤ _; exact Nat.le_of_eq rfl) (hb hby at_25) (fun _ _ => ⟨rfl, e0, (by decide : 0 + 0 ≤ _), (by decide : 0 + 0 ≤ _)⟩)
  dsimp only [Pt.U, Pt.locs, Pt.cells, Pt.slots] at X3 l3 y3 z3 st3 hQ3
  subst l3 y3 z3
  obtain ⟨rfl, N3q, g3⟩ := hQ3
  have N3 := Fr.app N0 N3q
  obtain ⟨T5, X5, e5, st5⟩ := getS2 X3 hx hZ hown (host := "") (Or.inl (hw _ (List.mem_of_getElem? (i := 10) rfl))) Via.refl rfl (by rw [g3]; exact S_MAKESPAN) (g := (mkF m 35 #[.val (.int p1), .val (.int p2), .val (.int (own_d p2)), .val (.int (own_k p1 p2)), .val (.double (own_w p1 p2)), .second, .val (.ref (own_at aM aC aO (own_w p1 p2))), .unset] [])) rfl (hb hby at_35)
  obtain ⟨fs, hr, hrun, hended, hW, hsame⟩ := X5.leave (v := some (.int (1 : Int32))) (fun h => by rw [Bd.returns] at h; cases h)
  refine ⟨_, _, pre0 _ ?_, hrun, hended, _, _, rfl, ?_, ⟨_, rfl⟩, hW, hsame.mono (by decide) (by decide)⟩
  · show Steps p.tables e below (s₁.setTop (mkF m 0 #[.val (.int p1), .val (.int p2), .unset, .unset, .unset, .unset, .unset, .unset] [])) _
    refine XS.iloadN X0.here hx rfl (hb hby at_0) rfl ?_
    show Steps p.tables e below (s₁.setTop (mkF m 1 #[.val (.int p1), .val (.int p2), .unset, .unset, .unset, .unset, .unset, .unset] [(.int p2)])) _
    refine XS.bipush X0.here hx rfl (hb hby at_1) ?_
    show Steps p.tables e below (s₁.setTop (mkF m 3 #[.val (.int p1), .val (.int p2), .unset, .unset, .unset, .unset, .unset, .unset] [(.int (7 : Int32)), (.int p2)])) _
    refine XS.iand X0.here hx rfl (hb hby at_3) rfl ?_
    show Steps p.tables e below (s₁.setTop (mkF m 4 #[.val (.int p1), .val (.int p2), .unset, .unset, .unset, .unset, .unset, .unset] [(.int (p2 &&& (7 : Int32)))])) _
    refine XS.iconst X0.here hx rfl (hb hby at_4) ?_
    show Steps p.tables e below (s₁.setTop (mkF m 5 #[.val (.int p1), .val (.int p2), .unset, .unset, .unset, .unset, .unset, .unset] [(.int (1 : Int32)), (.int (p2 &&& (7 : Int32)))])) _
    refine XS.iadd X0.here hx rfl (hb hby at_5) rfl ?_
    show Steps p.tables e below (s₁.setTop (mkF m 6 #[.val (.int p1), .val (.int p2), .unset, .unset, .unset, .unset, .unset, .unset] [(.int (own_d p2))])) _
    refine XS.istoreN X0.here hx rfl (hb hby at_6) rfl (l' := #[.val (.int p1), .val (.int p2), .val (.int (own_d p2)), .unset, .unset, .unset, .unset, .unset]) rfl ?_
    show Steps p.tables e below (s₁.setTop (mkF m 7 #[.val (.int p1), .val (.int p2), .val (.int (own_d p2)), .unset, .unset, .unset, .unset, .unset] [])) _
    refine XS.iloadN X0.here hx rfl (hb hby at_7) rfl ?_
    show Steps p.tables e below (s₁.setTop (mkF m 8 #[.val (.int p1), .val (.int p2), .val (.int (own_d p2)), .unset, .unset, .unset, .unset, .unset] [(.int p1)])) _
    refine X0.ldcInt hx hown (mvT hZ (hw _ (List.mem_of_getElem? (i := 0) rfl))) (g := (mkF m 8 #[.val (.int p1), .val (.int p2), .val (.int (own_d p2)), .unset, .unset, .unset, .unset, .unset] [(.int p1)])) rfl (hb hby at_8) _ ?_
    show Steps p.tables e below (s₁.setTop (mkF m 10 #[.val (.int p1), .val (.int p2), .val (.int (own_d p2)), .unset, .unset, .unset, .unset, .unset] [(.int (2147483647 : Int32)), (.int p1)])) _
    refine XS.iand X0.here hx rfl (hb hby at_10) rfl ?_
    show Steps p.tables e below (s₁.setTop (mkF m 11 #[.val (.int p1), .val (.int p2), .val (.int (own_d p2)), .unset, .unset, .unset, .unset, .unset] [(.int (p1 &&& (2147483647 : Int32)))])) _
    refine XS.iloadN X0.here hx rfl (hb hby at_11) rfl ?_
    show Steps p.tables e below (s₁.setTop (mkF m 12 #[.val (.int p1), .val (.int p2), .val (.int (own_d p2)), .unset, .unset, .unset, .unset, .unset] [(.int (own_d p2)), (.int (p1 &&& (2147483647 : Int32)))])) _
    refine XS.iconst X0.here hx rfl (hb hby at_12) ?_
    show Steps p.tables e below (s₁.setTop (mkF m 13 #[.val (.int p1), .val (.int p2), .val (.int (own_d p2)), .unset, .unset, .unset, .unset, .unset] [(.int (1 : Int32)), (.int (own_d p2)), (.int (p1 &&& (2147483647 : Int32)))])) _
    refine XS.iadd X0.here hx rfl (hb hby at_13) rfl ?_
    show Steps p.tables e below (s₁.setTop (mkF m 14 #[.val (.int p1), .val (.int p2), .val (.int (own_d p2)), .unset, .unset, .unset, .unset, .unset] [(.int ((own_d p2) + (1 : Int32))), (.int (p1 &&& (2147483647 : Int32)))])) _
    refine XS.irem X0.here hx rfl (hb hby at_14) rfl hnz14 ?_
    show Steps p.tables e below (s₁.setTop (mkF m 15 #[.val (.int p1), .val (.int p2), .val (.int (own_d p2)), .unset, .unset, .unset, .unset, .unset] [(.int (own_k p1 p2))])) _
    refine XS.istoreN X0.here hx rfl (hb hby at_15) rfl (l' := #[.val (.int p1), .val (.int p2), .val (.int (own_d p2)), .val (.int (own_k p1 p2)), .unset, .unset, .unset, .unset]) rfl ?_
    show Steps p.tables e below (s₁.setTop (mkF m 16 #[.val (.int p1), .val (.int p2), .val (.int (own_d p2)), .val (.int (own_k p1 p2)), .unset, .unset, .unset, .unset] [])) _
    refine XS.iloadN X0.here hx rfl (hb hby at_16) rfl ?_
    show Steps p.tables e below (s₁.setTop (mkF m 17 #[.val (.int p1), .val (.int p2), .val (.int (own_d p2)), .val (.int (own_k p1 p2)), .unset, .unset, .unset, .unset] [(.int (own_k p1 p2))])) _
    refine XS.i2dS X0.here hx rfl (hb hby at_17) rfl rfl ?_
    show Steps p.tables e below (s₁.setTop (mkF m 18 #[.val (.int p1), .val (.int p2), .val (.int (own_d p2)), .val (.int (own_k p1 p2)), .unset, .unset, .unset, .unset] [(.double (FP.i2d (own_k p1 p2)))])) _
    refine XS.iloadN X0.here hx rfl (hb hby at_18) rfl ?_
    show Steps p.tables e below (s₁.setTop (mkF m 19 #[.val (.int p1), .val (.int p2), .val (.int (own_d p2)), .val (.int (own_k p1 p2)), .unset, .unset, .unset, .unset] [(.int (own_d p2)), (.double (FP.i2d (own_k p1 p2)))])) _
    refine XS.i2dS X0.here hx rfl (hb hby at_19) rfl rfl ?_
    show Steps p.tables e below (s₁.setTop (mkF m 20 #[.val (.int p1), .val (.int p2), .val (.int (own_d p2)), .val (.int (own_k p1 p2)), .unset, .unset, .unset, .unset] [(.double (FP.i2d (own_d p2))), (.double (FP.i2d (own_k p1 p2)))])) _
    refine XS.ddivS X0.here hx rfl (hb hby at_20) rfl hnn20 rfl ?_
    show Steps p.tables e below (s₁.setTop (mkF m 21 #[.val (.int p1), .val (.int p2), .val (.int (own_d p2)), .val (.int (own_k p1 p2)), .unset, .unset, .unset, .unset] [(.double (own_w p1 p2))])) _
    refine XS.dstore X0.here hx rfl (hb hby at_21) rfl (l' := #[.val (.int p1), .val (.int p2), .val (.int (own_d p2)), .val (.int (own_k p1 p2)), .val (.double (own_w p1 p2)), .second, .unset, .unset]) rfl ?_
    show Steps p.tables e below (s₁.setTop (mkF m 23 #[.val (.int p1), .val (.int p2), .val (.int (own_d p2)), .val (.int (own_k p1 p2)), .val (.double (own_w p1 p2)), .second, .unset, .unset] [])) _
    refine XS.dload X0.here hx rfl (hb hby at_23) rfl ?_
    show Steps p.tables e below (s₁.setTop (mkF m 25 #[.val (.int p1), .val (.int p2), .val (.int (own_d p2)), .val (.int (own_k p1 p2)), .val (.double (own_w p1 p2)), .second, .unset, .unset] [(.double (own_w p1 p2))])) _
    refine st3 _ ?_
    show Steps p.tables e below (T3.setTop (mkF m 28 #[.val (.int p1), .val (.int p2), .val (.int (own_d p2)), .val (.int (own_k p1 p2)), .val (.double (own_w p1 p2)), .second, .unset, .unset] [(.ref (own_at aM aC aO (own_w p1 p2)))])) _
    refine XS.astore X3.here hx rfl (hb hby at_28) rfl rfl (l' := #[.val (.int p1), .val (.int p2), .val (.int (own_d p2)), .val (.int (own_k p1 p2)), .val (.double (own_w p1 p2)), .second, .val (.ref (own_at aM aC aO (own_w p1 p2))), .unset]) rfl ?_
    show Steps p.tables e below (T3.setTop (mkF m 30 #[.val (.int p1), .val (.int p2), .val (.int (own_d p2)), .val (.int (own_k p1 p2)), .val (.double (own_w p1 p2)), .second, .val (.ref (own_at aM aC aO (own_w p1 p2))), .unset] [])) _
    refine XS.iloadN X3.here hx rfl (hb hby at_30) rfl ?_
    show Steps p.tables e below (T3.setTop (mkF m 31 #[.val (.int p1), .val (.int p2), .val (.int (own_d p2)), .val (.int (own_k p1 p2)), .val (.double (own_w p1 p2)), .second, .val (.ref (own_at aM aC aO (own_w p1 p2))), .unset] [(.int (own_k p1 p2))])) _
    refine XS.iloadN X3.here hx rfl (hb hby at_31) rfl ?_
    show Steps p.tables e below (T3.setTop (mkF m 32 #[.val (.int p1), .val (.int p2), .val (.int (own_d p2)), .val (.int (own_k p1 p2)), .val (.double (own_w p1 p2)), .second, .val (.ref (own_at aM aC aO (own_w p1 p2))), .unset] [(.int (own_d p2)), (.int (own_k p1 p2))])) _
    refine XS.icmpNo X3.here hx rfl (hb hby at_32) rfl (teq hc32).2 ?_
    show Steps p.tables e below (T3.setTop (mkF m 35 #[.val (.int p1), .val (.int p2), .val (.int (own_d p2)), .val (.int (own_k p1 p2)), .val (.double (own_w p1 p2)), .second, .val (.ref (own_at aM aC aO (own_w p1 p2))), .unset] [])) _
    refine st5 _ ?_
    show Steps p.tables e below (T5.setTop (mkF m 38 #[.val (.int p1), .val (.int p2), .val (.int (own_d p2)), .val (.int (own_k p1 p2)), .val (.double (own_w p1 p2)), .second, .val (.ref (own_at aM aC aO (own_w p1 p2))), .unset] [(.ref aM)])) _
    refine XS.astore X5.here hx rfl (hb hby at_38) rfl rfl (l' := #[.val (.int p1), .val (.int p2), .val (.int (own_d p2)), .val (.int (own_k p1 p2)), .val (.double (own_w p1 p2)), .second, .val (.ref (own_at aM aC aO (own_w p1 p2))), .val (.ref aM)]) rfl ?_
    show Steps p.tables e below (T5.setTop (mkF m 40 #[.val (.int p1), .val (.int p2), .val (.int (own_d p2)), .val (.int (own_k p1 p2)), .val (.double (own_w p1 p2)), .second, .val (.ref (own_at aM aC aO (own_w p1 p2))), .val (.ref aM)] [])) _
    refine XS.goto X5.here hx rfl (pc0 := 40) (pc' := 60) rfl (hb hby at_40) (by decide) (by decide) ?_
    show Steps p.tables e below (T5.setTop (mkF m 60 #[.val (.int p1), .val (.int p2), .val (.int (own_d p2)), .val (.int (own_k p1 p2)), .val (.double (own_w p1 p2)), .second, .val (.ref (own_at aM aC aO (own_w p1 p2))), .val (.ref aM)] [])) _
    refine XS.aload X5.here hx rfl (hb hby at_60) rfl rfl ?_
    show Steps p.tables e below (T5.setTop (mkF m 62 #[.val (.int p1), .val (.int p2), .val (.int (own_d p2)), .val (.int (own_k p1 p2)), .val (.double (own_w p1 p2)), .second, .val (.ref (own_at aM aC aO (own_w p1 p2))), .val (.ref aM)] [(.ref (own_at aM aC aO (own_w p1 p2)))])) _
    refine XS.aload X5.here hx rfl (hb hby at_62) rfl rfl ?_
    show Steps p.tables e below (T5.setTop (mkF m 64 #[.val (.int p1), .val (.int p2), .val (.int (own_d p2)), .val (.int (own_k p1 p2)), .val (.double (own_w p1 p2)), .second, .val (.ref (own_at aM aC aO (own_w p1 p2))), .val (.ref aM)] [(.ref aM), (.ref (own_at aM aC aO (own_w p1 p2)))])) _
    refine Jvm.RoadKit.acmp (g := (mkF m 64 #[.val (.int p1), .val (.int p2), .val (.int (own_d p2)), .val (.int (own_k p1 p2)), .val (.double (own_w p1 p2)), .second, .val (.ref (own_at aM aC aO (own_w p1 p2))), .val (.ref aM)] [(.ref aM), (.ref (own_at aM aC aO (own_w p1 p2)))])) X5 hx rfl rfl rfl (pc0 := 64) (pc' := 67) (same := true) rfl (hb hby at_64) rfl (decide_eq_true (congrArg Value.ref ha64)) (by decide) (by decide) ?_
    show Steps p.tables e below (T5.setTop (mkF m 67 #[.val (.int p1), .val (.int p2), .val (.int (own_d p2)), .val (.int (own_k p1 p2)), .val (.double (own_w p1 p2)), .second, .val (.ref (own_at aM aC aO (own_w p1 p2))), .val (.ref aM)] [])) _
    refine XS.iconst X5.here hx rfl (hb hby at_67) ?_
    show Steps p.tables e below (T5.setTop (mkF m 68 #[.val (.int p1), .val (.int p2), .val (.int (own_d p2)), .val (.int (own_k p1 p2)), .val (.double (own_w p1 p2)), .second, .val (.ref (own_at aM aC aO (own_w p1 p2))), .val (.ref aM)] [(.int (1 : Int32))])) _
    refine XS.goto X5.here hx rfl (pc0 := 68) (pc' := 72) rfl (hb hby at_68) (by decide) (by decide) ?_
    show Steps p.tables e below (T5.setTop (mkF m 72 #[.val (.int p1), .val (.int p2), .val (.int (own_d p2)), .val (.int (own_k p1 p2)), .val (.double (own_w p1 p2)), .second, .val (.ref (own_at aM aC aO (own_w p1 p2))), .val (.ref aM)] [(.int (1 : Int32))])) _
    exact retN X5 hx (t := .boolean) Bd.returns (by simp) (hb hby at_72) hr
  · show Q0 Z p1 p2 h0 n0 _ T5.heap _
    rw [e5]
    exact ⟨rfl, N3⟩
set_option maxRecDepth 65536 in
set_option maxHeartbeats 40000000 in
theorem rm0_b (l : Launch) (Z : State) (a0 : Array Value) (hw : ∀ d ∈ tables_1, d.before a0 Z = true) (ws : List Jvm.Cond) (p1 : Int32) (p2 : Int32) (aM aC aO : Addr) (h0 : Heap) (n0 : Nat) (Z0 : n0 ≤ h0.size) (S_MAKESPAN : Sta Z h0 "com/example/trailplan/trailplan/cli/Measure" "MAKESPAN" "Lcom/example/trailplan/trailplan/cli/Measure;" (.ref aM)) (S_COST : Sta Z h0 "com/example/trailplan/trailplan/cli/Measure" "COST" "Lcom/example/trailplan/trailplan/cli/Measure;" (.ref aC)) (S_OBJECTIVE : Sta Z h0 "com/example/trailplan/trailplan/cli/Measure" "OBJECTIVE" "Lcom/example/trailplan/trailplan/cli/Measure;" (.ref aO)) (hnz14 : ¬ (((own_d p2) + (1 : Int32)) = (0 : Int32))) (hnn20 : Jvm.Free.Fl.NoNaN64 (own_w p1 p2)) (hc32 : ¬ ((own_k p1 p2) = (own_d p2))) (hc44 : (own_k p1 p2) = (0 : Int32)) (ha64 : own_at aM aC aO (own_w p1 p2) = aC) :
    MetFree l x (head1 (Jvm.Cond.code x code maxLocals ret :: ws) room_1) (fun a U => a = #[(.int p1), (.int p2)] ∧ Z.Warmed39 U.vm ∧ U.heap = h0) (fun _ _ _ _ _ => True) (fun _ U o U' => ∃ v L, o = .returned v ∧ Q0 Z p1 p2 h0 n0 v U'.heap L ∧ FrameEnd U o U' L room_1.cells room_1.slots) := by
  refine MetFree.of_bodySF (plainFor_of_name pn_0) hisR ?_
  intro p e s m args below meth c s₁ Bd hml0 hP hK
  obtain ⟨rfl, hZ, hh⟩ := hP
  have hx := Bd.exec
  have hby := Bd.bytes
  have hml : c.maxLocals = 8 := hml0
  have hown : s.vm.findClass "com/example/trailplan/trailplan/cli/MeasureAtPinLaw" = some m.cls := findClass_of_methodNamed Bd.named
  have hnm := (name_of_methodNamed Bd.named Bd.method).1
  have X0 : Stand p l e room_1 s m #[(.int p1), (.int p2)] below meth c s₁ [] 0 0 := Stand.of_body Bd
  have e0 : s₁.heap = h0 := by rw [← hh, Bd.state]; rfl
  have N0 := Fr.nil n0
  have pre0 : ∀ t, Steps p.tables e below (s₁.setTop (mkF m 0 #[.val (.int p1), .val (.int p2), .unset, .unset, .unset, .unset, .unset, .unset] [])) t → Steps p.tables e below (s₁.setTop (entryFrame m #[(.int p1), (.int p2)] maxLocals)) t := fun t k => castTop (ef_0 m p1 p2) k
  obtain ⟨_, _, ⟨T3, L3, k3, n3⟩, -, X3, ⟨Lc3, hQ3, l3, y3, z3⟩, st3⟩ := Jvm.LawKit.callS X0 hx (y := (⟨"com/example/trailplan/trailplan/cli/Measure", "at", "(D)Lcom/example/trailplan/trailplan/cli/Measure;"⟩ : MethodName)) hown (mvT hZ (hw _ (List.mem_of_getElem? (i := 1) rfl))) (mvT hZ (hw _ (List.mem_of_getElem? (i := 2) rfl))) (mvT hZ (hw _ (List.mem_of_getElem? (i := 3) rfl))) (mvT hZ (hw _ (List.mem_of_getElem? (i := 4) rfl))) (by decide) (backOf (W := 0) (rm1 l Z a0 hw [] (own_w p1 p2) aM aC aO h0 n0 Z0 S_MAKESPAN S_COST S_OBJECTIVE) hZ (hw _ (List.mem_of_getElem? (i := 4) rfl)) (hw _ (List.mem_of_getElem? (i := 3) rfl)) (by decide) (by decide)) (g := (mkF m 25 #[.val (.int p1), .val (.int p2), .val (.int (own_d p2)), .val (.int (own_k p1 p2)), .val (.double (own_w p1 p2)), .second, .unset, .unset] [(.double (own_w p1 p2))])) rfl (by rw [hml]; rfl) (argsL := [(.double (own_w p1 p2))]) (rest := []) (lenOf pdx_0 rfl) rfl (by show 2 * 0 + _ ≤ _; exact Nat.le_of_eq rfl) (hb hby at_25) (fun _ _ => ⟨rfl, e0, (by decide : 0 + 0 ≤ _), (by decide : 0 + 0 ≤ _)⟩)
  dsimp only [Pt.U, Pt.locs, Pt.cells, Pt.slots] at X3 l3 y3 z3 st3 hQ3
  subst l3 y3 z3
  obtain ⟨rfl, N3q, g3⟩ := hQ3
  have N3 := Fr.app N0 N3q
  obtain ⟨T5, X5, e5, st5⟩ := getS2 X3 hx hZ hown (host := "") (Or.inl (hw _ (List.mem_of_getElem? (i := 7) rfl))) Via.refl rfl (by rw [g3]; exact S_COST) (g := (mkF m 47 #[.val (.int p1), .val (.int p2), .val (.int (own_d p2)), .val (.int (own_k p1 p2)), .val (.double (own_w p1 p2)), .second, .val (.ref (own_at aM aC aO (own_w p1 p2))), .unset] [])) rfl (hb hby at_47)
  obtain ⟨fs, hr, hrun, hended, hW, hsame⟩ := X5.leave (v := some (.int (1 : Int32))) (fun h => by rw [Bd.returns] at h; cases h)
  refine ⟨_, _, pre0 _ ?_, hrun, hended, _, _, rfl, ?_, ⟨_, rfl⟩, hW, hsame.mono (by decide) (by decide)⟩
  · show Steps p.tables e below (s₁.setTop (mkF m 0 #[.val (.int p1), .val (.int p2), .unset, .unset, .unset, .unset, .unset, .unset] [])) _
    refine XS.iloadN X0.here hx rfl (hb hby at_0) rfl ?_
    show Steps p.tables e below (s₁.setTop (mkF m 1 #[.val (.int p1), .val (.int p2), .unset, .unset, .unset, .unset, .unset, .unset] [(.int p2)])) _
    refine XS.bipush X0.here hx rfl (hb hby at_1) ?_
    show Steps p.tables e below (s₁.setTop (mkF m 3 #[.val (.int p1), .val (.int p2), .unset, .unset, .unset, .unset, .unset, .unset] [(.int (7 : Int32)), (.int p2)])) _
    refine XS.iand X0.here hx rfl (hb hby at_3) rfl ?_
    show Steps p.tables e below (s₁.setTop (mkF m 4 #[.val (.int p1), .val (.int p2), .unset, .unset, .unset, .unset, .unset, .unset] [(.int (p2 &&& (7 : Int32)))])) _
    refine XS.iconst X0.here hx rfl (hb hby at_4) ?_
    show Steps p.tables e below (s₁.setTop (mkF m 5 #[.val (.int p1), .val (.int p2), .unset, .unset, .unset, .unset, .unset, .unset] [(.int (1 : Int32)), (.int (p2 &&& (7 : Int32)))])) _
    refine XS.iadd X0.here hx rfl (hb hby at_5) rfl ?_
    show Steps p.tables e below (s₁.setTop (mkF m 6 #[.val (.int p1), .val (.int p2), .unset, .unset, .unset, .unset, .unset, .unset] [(.int (own_d p2))])) _
    refine XS.istoreN X0.here hx rfl (hb hby at_6) rfl (l' := #[.val (.int p1), .val (.int p2), .val (.int (own_d p2)), .unset, .unset, .unset, .unset, .unset]) rfl ?_
    show Steps p.tables e below (s₁.setTop (mkF m 7 #[.val (.int p1), .val (.int p2), .val (.int (own_d p2)), .unset, .unset, .unset, .unset, .unset] [])) _
    refine XS.iloadN X0.here hx rfl (hb hby at_7) rfl ?_
    show Steps p.tables e below (s₁.setTop (mkF m 8 #[.val (.int p1), .val (.int p2), .val (.int (own_d p2)), .unset, .unset, .unset, .unset, .unset] [(.int p1)])) _
    refine X0.ldcInt hx hown (mvT hZ (hw _ (List.mem_of_getElem? (i := 0) rfl))) (g := (mkF m 8 #[.val (.int p1), .val (.int p2), .val (.int (own_d p2)), .unset, .unset, .unset, .unset, .unset] [(.int p1)])) rfl (hb hby at_8) _ ?_
    show Steps p.tables e below (s₁.setTop (mkF m 10 #[.val (.int p1), .val (.int p2), .val (.int (own_d p2)), .unset, .unset, .unset, .unset, .unset] [(.int (2147483647 : Int32)), (.int p1)])) _
    refine XS.iand X0.here hx rfl (hb hby at_10) rfl ?_
    show Steps p.tables e below (s₁.setTop (mkF m 11 #[.val (.int p1), .val (.int p2), .val (.int (own_d p2)), .unset, .unset, .unset, .unset, .unset] [(.int (p1 &&& (2147483647 : Int32)))])) _
    refine XS.iloadN X0.here hx rfl (hb hby at_11) rfl ?_
    show Steps p.tables e below (s₁.setTop (mkF m 12 #[.val (.int p1), .val (.int p2), .val (.int (own_d p2)), .unset, .unset, .unset, .unset, .unset] [(.int (own_d p2)), (.int (p1 &&& (2147483647 : Int32)))])) _
    refine XS.iconst X0.here hx rfl (hb hby at_12) ?_
    show Steps p.tables e below (s₁.setTop (mkF m 13 #[.val (.int p1), .val (.int p2), .val (.int (own_d p2)), .unset, .unset, .unset, .unset, .unset] [(.int (1 : Int32)), (.int (own_d p2)), (.int (p1 &&& (2147483647 : Int32)))])) _
    refine XS.iadd X0.here hx rfl (hb hby at_13) rfl ?_
    show Steps p.tables e below (s₁.setTop (mkF m 14 #[.val (.int p1), .val (.int p2), .val (.int (own_d p2)), .unset, .unset, .unset, .unset, .unset] [(.int ((own_d p2) + (1 : Int32))), (.int (p1 &&& (2147483647 : Int32)))])) _
    refine XS.irem X0.here hx rfl (hb hby at_14) rfl hnz14 ?_
    show Steps p.tables e below (s₁.setTop (mkF m 15 #[.val (.int p1), .val (.int p2), .val (.int (own_d p2)), .unset, .unset, .unset, .unset, .unset] [(.int (own_k p1 p2))])) _
    refine XS.istoreN X0.here hx rfl (hb hby at_15) rfl (l' := #[.val (.int p1), .val (.int p2), .val (.int (own_d p2)), .val (.int (own_k p1 p2)), .unset, .unset, .unset, .unset]) rfl ?_
    show Steps p.tables e below (s₁.setTop (mkF m 16 #[.val (.int p1), .val (.int p2), .val (.int (own_d p2)), .val (.int (own_k p1 p2)), .unset, .unset, .unset, .unset] [])) _
    refine XS.iloadN X0.here hx rfl (hb hby at_16) rfl ?_
    show Steps p.tables e below (s₁.setTop (mkF m 17 #[.val (.int p1), .val (.int p2), .val (.int (own_d p2)), .val (.int (own_k p1 p2)), .unset, .unset, .unset, .unset] [(.int (own_k p1 p2))])) _
    refine XS.i2dS X0.here hx rfl (hb hby at_17) rfl rfl ?_
    show Steps p.tables e below (s₁.setTop (mkF m 18 #[.val (.int p1), .val (.int p2), .val (.int (own_d p2)), .val (.int (own_k p1 p2)), .unset, .unset, .unset, .unset] [(.double (FP.i2d (own_k p1 p2)))])) _
    refine XS.iloadN X0.here hx rfl (hb hby at_18) rfl ?_
    show Steps p.tables e below (s₁.setTop (mkF m 19 #[.val (.int p1), .val (.int p2), .val (.int (own_d p2)), .val (.int (own_k p1 p2)), .unset, .unset, .unset, .unset] [(.int (own_d p2)), (.double (FP.i2d (own_k p1 p2)))])) _
    refine XS.i2dS X0.here hx rfl (hb hby at_19) rfl rfl ?_
    show Steps p.tables e below (s₁.setTop (mkF m 20 #[.val (.int p1), .val (.int p2), .val (.int (own_d p2)), .val (.int (own_k p1 p2)), .unset, .unset, .unset, .unset] [(.double (FP.i2d (own_d p2))), (.double (FP.i2d (own_k p1 p2)))])) _
    refine XS.ddivS X0.here hx rfl (hb hby at_20) rfl hnn20 rfl ?_
    show Steps p.tables e below (s₁.setTop (mkF m 21 #[.val (.int p1), .val (.int p2), .val (.int (own_d p2)), .val (.int (own_k p1 p2)), .unset, .unset, .unset, .unset] [(.double (own_w p1 p2))])) _
    refine XS.dstore X0.here hx rfl (hb hby at_21) rfl (l' := #[.val (.int p1), .val (.int p2), .val (.int (own_d p2)), .val (.int (own_k p1 p2)), .val (.double (own_w p1 p2)), .second, .unset, .unset]) rfl ?_
    show Steps p.tables e below (s₁.setTop (mkF m 23 #[.val (.int p1), .val (.int p2), .val (.int (own_d p2)), .val (.int (own_k p1 p2)), .val (.double (own_w p1 p2)), .second, .unset, .unset] [])) _
    refine XS.dload X0.here hx rfl (hb hby at_23) rfl ?_
    show Steps p.tables e below (s₁.setTop (mkF m 25 #[.val (.int p1), .val (.int p2), .val (.int (own_d p2)), .val (.int (own_k p1 p2)), .val (.double (own_w p1 p2)), .second, .unset, .unset] [(.double (own_w p1 p2))])) _
    refine st3 _ ?_
    show Steps p.tables e below (T3.setTop (mkF m 28 #[.val (.int p1), .val (.int p2), .val (.int (own_d p2)), .val (.int (own_k p1 p2)), .val (.double (own_w p1 p2)), .second, .unset, .unset] [(.ref (own_at aM aC aO (own_w p1 p2)))])) _
    refine XS.astore X3.here hx rfl (hb hby at_28) rfl rfl (l' := #[.val (.int p1), .val (.int p2), .val (.int (own_d p2)), .val (.int (own_k p1 p2)), .val (.double (own_w p1 p2)), .second, .val (.ref (own_at aM aC aO (own_w p1 p2))), .unset]) rfl ?_
    show Steps p.tables e below (T3.setTop (mkF m 30 #[.val (.int p1), .val (.int p2), .val (.int (own_d p2)), .val (.int (own_k p1 p2)), .val (.double (own_w p1 p2)), .second, .val (.ref (own_at aM aC aO (own_w p1 p2))), .unset] [])) _
    refine XS.iloadN X3.here hx rfl (hb hby at_30) rfl ?_
    show Steps p.tables e below (T3.setTop (mkF m 31 #[.val (.int p1), .val (.int p2), .val (.int (own_d p2)), .val (.int (own_k p1 p2)), .val (.double (own_w p1 p2)), .second, .val (.ref (own_at aM aC aO (own_w p1 p2))), .unset] [(.int (own_k p1 p2))])) _
    refine XS.iloadN X3.here hx rfl (hb hby at_31) rfl ?_
    show Steps p.tables e below (T3.setTop (mkF m 32 #[.val (.int p1), .val (.int p2), .val (.int (own_d p2)), .val (.int (own_k p1 p2)), .val (.double (own_w p1 p2)), .second, .val (.ref (own_at aM aC aO (own_w p1 p2))), .unset] [(.int (own_d p2)), (.int (own_k p1 p2))])) _
    refine XS.icmpYes X3.here hx rfl (pc0 := 32) (pc' := 43) rfl (hb hby at_32) rfl (feq hc32).2 (by decide) (by decide) ?_
    show Steps p.tables e below (T3.setTop (mkF m 43 #[.val (.int p1), .val (.int p2), .val (.int (own_d p2)), .val (.int (own_k p1 p2)), .val (.double (own_w p1 p2)), .second, .val (.ref (own_at aM aC aO (own_w p1 p2))), .unset] [])) _
    refine XS.iloadN X3.here hx rfl (hb hby at_43) rfl ?_
    show Steps p.tables e below (T3.setTop (mkF m 44 #[.val (.int p1), .val (.int p2), .val (.int (own_d p2)), .val (.int (own_k p1 p2)), .val (.double (own_w p1 p2)), .second, .val (.ref (own_at aM aC aO (own_w p1 p2))), .unset] [(.int (own_k p1 p2))])) _
    refine XS.ifNo X3.here hx rfl (hb hby at_44) rfl ((if0 _ _).trans (teq hc44).2) ?_
    show Steps p.tables e below (T3.setTop (mkF m 47 #[.val (.int p1), .val (.int p2), .val (.int (own_d p2)), .val (.int (own_k p1 p2)), .val (.double (own_w p1 p2)), .second, .val (.ref (own_at aM aC aO (own_w p1 p2))), .unset] [])) _
    refine st5 _ ?_
    show Steps p.tables e below (T5.setTop (mkF m 50 #[.val (.int p1), .val (.int p2), .val (.int (own_d p2)), .val (.int (own_k p1 p2)), .val (.double (own_w p1 p2)), .second, .val (.ref (own_at aM aC aO (own_w p1 p2))), .unset] [(.ref aC)])) _
    refine XS.astore X5.here hx rfl (hb hby at_50) rfl rfl (l' := #[.val (.int p1), .val (.int p2), .val (.int (own_d p2)), .val (.int (own_k p1 p2)), .val (.double (own_w p1 p2)), .second, .val (.ref (own_at aM aC aO (own_w p1 p2))), .val (.ref aC)]) rfl ?_
    show Steps p.tables e below (T5.setTop (mkF m 52 #[.val (.int p1), .val (.int p2), .val (.int (own_d p2)), .val (.int (own_k p1 p2)), .val (.double (own_w p1 p2)), .second, .val (.ref (own_at aM aC aO (own_w p1 p2))), .val (.ref aC)] [])) _
    refine XS.goto X5.here hx rfl (pc0 := 52) (pc' := 60) rfl (hb hby at_52) (by decide) (by decide) ?_
    show Steps p.tables e below (T5.setTop (mkF m 60 #[.val (.int p1), .val (.int p2), .val (.int (own_d p2)), .val (.int (own_k p1 p2)), .val (.double (own_w p1 p2)), .second, .val (.ref (own_at aM aC aO (own_w p1 p2))), .val (.ref aC)] [])) _
    refine XS.aload X5.here hx rfl (hb hby at_60) rfl rfl ?_
    show Steps p.tables e below (T5.setTop (mkF m 62 #[.val (.int p1), .val (.int p2), .val (.int (own_d p2)), .val (.int (own_k p1 p2)), .val (.double (own_w p1 p2)), .second, .val (.ref (own_at aM aC aO (own_w p1 p2))), .val (.ref aC)] [(.ref (own_at aM aC aO (own_w p1 p2)))])) _
    refine XS.aload X5.here hx rfl (hb hby at_62) rfl rfl ?_
    show Steps p.tables e below (T5.setTop (mkF m 64 #[.val (.int p1), .val (.int p2), .val (.int (own_d p2)), .val (.int (own_k p1 p2)), .val (.double (own_w p1 p2)), .second, .val (.ref (own_at aM aC aO (own_w p1 p2))), .val (.ref aC)] [(.ref aC), (.ref (own_at aM aC aO (own_w p1 p2)))])) _
    refine Jvm.RoadKit.acmp (g := (mkF m 64 #[.val (.int p1), .val (.int p2), .val (.int (own_d p2)), .val (.int (own_k p1 p2)), .val (.double (own_w p1 p2)), .second, .val (.ref (own_at aM aC aO (own_w p1 p2))), .val (.ref aC)] [(.ref aC), (.ref (own_at aM aC aO (own_w p1 p2)))])) X5 hx rfl rfl rfl (pc0 := 64) (pc' := 67) (same := true) rfl (hb hby at_64) rfl (decide_eq_true (congrArg Value.ref ha64)) (by decide) (by decide) ?_
    show Steps p.tables e below (T5.setTop (mkF m 67 #[.val (.int p1), .val (.int p2), .val (.int (own_d p2)), .val (.int (own_k p1 p2)), .val (.double (own_w p1 p2)), .second, .val (.ref (own_at aM aC aO (own_w p1 p2))), .val (.ref aC)] [])) _
    refine XS.iconst X5.here hx rfl (hb hby at_67) ?_
    show Steps p.tables e below (T5.setTop (mkF m 68 #[.val (.int p1), .val (.int p2), .val (.int (own_d p2)), .val (.int (own_k p1 p2)), .val (.double (own_w p1 p2)), .second, .val (.ref (own_at aM aC aO (own_w p1 p2))), .val (.ref aC)] [(.int (1 : Int32))])) _
    refine XS.goto X5.here hx rfl (pc0 := 68) (pc' := 72) rfl (hb hby at_68) (by decide) (by decide) ?_
    show Steps p.tables e below (T5.setTop (mkF m 72 #[.val (.int p1), .val (.int p2), .val (.int (own_d p2)), .val (.int (own_k p1 p2)), .val (.double (own_w p1 p2)), .second, .val (.ref (own_at aM aC aO (own_w p1 p2))), .val (.ref aC)] [(.int (1 : Int32))])) _
    exact retN X5 hx (t := .boolean) Bd.returns (by simp) (hb hby at_72) hr
  · show Q0 Z p1 p2 h0 n0 _ T5.heap _
    rw [e5]
    exact ⟨rfl, N3⟩
set_option maxRecDepth 65536 in
set_option maxHeartbeats 40000000 in
theorem rm0_c (l : Launch) (Z : State) (a0 : Array Value) (hw : ∀ d ∈ tables_1, d.before a0 Z = true) (ws : List Jvm.Cond) (p1 : Int32) (p2 : Int32) (aM aC aO : Addr) (h0 : Heap) (n0 : Nat) (Z0 : n0 ≤ h0.size) (S_MAKESPAN : Sta Z h0 "com/example/trailplan/trailplan/cli/Measure" "MAKESPAN" "Lcom/example/trailplan/trailplan/cli/Measure;" (.ref aM)) (S_COST : Sta Z h0 "com/example/trailplan/trailplan/cli/Measure" "COST" "Lcom/example/trailplan/trailplan/cli/Measure;" (.ref aC)) (S_OBJECTIVE : Sta Z h0 "com/example/trailplan/trailplan/cli/Measure" "OBJECTIVE" "Lcom/example/trailplan/trailplan/cli/Measure;" (.ref aO)) (hnz14 : ¬ (((own_d p2) + (1 : Int32)) = (0 : Int32))) (hnn20 : Jvm.Free.Fl.NoNaN64 (own_w p1 p2)) (hc32 : ¬ ((own_k p1 p2) = (own_d p2))) (hc44 : ¬ ((own_k p1 p2) = (0 : Int32))) (ha64 : own_at aM aC aO (own_w p1 p2) = aO) :
    MetFree l x (head1 (Jvm.Cond.code x code maxLocals ret :: ws) room_1) (fun a U => a = #[(.int p1), (.int p2)] ∧ Z.Warmed39 U.vm ∧ U.heap = h0) (fun _ _ _ _ _ => True) (fun _ U o U' => ∃ v L, o = .returned v ∧ Q0 Z p1 p2 h0 n0 v U'.heap L ∧ FrameEnd U o U' L room_1.cells room_1.slots) := by
  refine MetFree.of_bodySF (plainFor_of_name pn_0) hisR ?_
  intro p e s m args below meth c s₁ Bd hml0 hP hK
  obtain ⟨rfl, hZ, hh⟩ := hP
  have hx := Bd.exec
  have hby := Bd.bytes
  have hml : c.maxLocals = 8 := hml0
  have hown : s.vm.findClass "com/example/trailplan/trailplan/cli/MeasureAtPinLaw" = some m.cls := findClass_of_methodNamed Bd.named
  have hnm := (name_of_methodNamed Bd.named Bd.method).1
  have X0 : Stand p l e room_1 s m #[(.int p1), (.int p2)] below meth c s₁ [] 0 0 := Stand.of_body Bd
  have e0 : s₁.heap = h0 := by rw [← hh, Bd.state]; rfl
  have N0 := Fr.nil n0
  have pre0 : ∀ t, Steps p.tables e below (s₁.setTop (mkF m 0 #[.val (.int p1), .val (.int p2), .unset, .unset, .unset, .unset, .unset, .unset] [])) t → Steps p.tables e below (s₁.setTop (entryFrame m #[(.int p1), (.int p2)] maxLocals)) t := fun t k => castTop (ef_0 m p1 p2) k
  obtain ⟨_, _, ⟨T3, L3, k3, n3⟩, -, X3, ⟨Lc3, hQ3, l3, y3, z3⟩, st3⟩ := Jvm.LawKit.callS X0 hx (y := (⟨"com/example/trailplan/trailplan/cli/Measure", "at", "(D)Lcom/example/trailplan/trailplan/cli/Measure;"⟩ : MethodName)) hown (mvT hZ (hw _ (List.mem_of_getElem? (i := 1) rfl))) (mvT hZ (hw _ (List.mem_of_getElem? (i := 2) rfl))) (mvT hZ (hw _ (List.mem_of_getElem? (i := 3) rfl))) (mvT hZ (hw _ (List.mem_of_getElem? (i := 4) rfl))) (by decide) (backOf (W := 0) (rm1 l Z a0 hw [] (own_w p1 p2) aM aC aO h0 n0 Z0 S_MAKESPAN S_COST S_OBJECTIVE) hZ (hw _ (List.mem_of_getElem? (i := 4) rfl)) (hw _ (List.mem_of_getElem? (i := 3) rfl)) (by decide) (by decide)) (g := (mkF m 25 #[.val (.int p1), .val (.int p2), .val (.int (own_d p2)), .val (.int (own_k p1 p2)), .val (.double (own_w p1 p2)), .second, .unset, .unset] [(.double (own_w p1 p2))])) rfl (by rw [hml]; rfl) (argsL := [(.double (own_w p1 p2))]) (rest := []) (lenOf pdx_0 rfl) rfl (by show 2 * 0 + _ ≤ _; exact Nat.le_of_eq rfl) (hb hby at_25) (fun _ _ => ⟨rfl, e0, (by decide : 0 + 0 ≤ _), (by decide : 0 + 0 ≤ _)⟩)
  dsimp only [Pt.U, Pt.locs, Pt.cells, Pt.slots] at X3 l3 y3 z3 st3 hQ3
  subst l3 y3 z3
  obtain ⟨rfl, N3q, g3⟩ := hQ3
  have N3 := Fr.app N0 N3q
  obtain ⟨T5, X5, e5, st5⟩ := getS2 X3 hx hZ hown (host := "") (Or.inl (hw _ (List.mem_of_getElem? (i := 13) rfl))) Via.refl rfl (by rw [g3]; exact S_OBJECTIVE) (g := (mkF m 55 #[.val (.int p1), .val (.int p2), .val (.int (own_d p2)), .val (.int (own_k p1 p2)), .val (.double (own_w p1 p2)), .second, .val (.ref (own_at aM aC aO (own_w p1 p2))), .unset] [])) rfl (hb hby at_55)
  obtain ⟨fs, hr, hrun, hended, hW, hsame⟩ := X5.leave (v := some (.int (1 : Int32))) (fun h => by rw [Bd.returns] at h; cases h)
  refine ⟨_, _, pre0 _ ?_, hrun, hended, _, _, rfl, ?_, ⟨_, rfl⟩, hW, hsame.mono (by decide) (by decide)⟩
  · show Steps p.tables e below (s₁.setTop (mkF m 0 #[.val (.int p1), .val (.int p2), .unset, .unset, .unset, .unset, .unset, .unset] [])) _
    refine XS.iloadN X0.here hx rfl (hb hby at_0) rfl ?_
    show Steps p.tables e below (s₁.setTop (mkF m 1 #[.val (.int p1), .val (.int p2), .unset, .unset, .unset, .unset, .unset, .unset] [(.int p2)])) _
    refine XS.bipush X0.here hx rfl (hb hby at_1) ?_
    show Steps p.tables e below (s₁.setTop (mkF m 3 #[.val (.int p1), .val (.int p2), .unset, .unset, .unset, .unset, .unset, .unset] [(.int (7 : Int32)), (.int p2)])) _
    refine XS.iand X0.here hx rfl (hb hby at_3) rfl ?_
    show Steps p.tables e below (s₁.setTop (mkF m 4 #[.val (.int p1), .val (.int p2), .unset, .unset, .unset, .unset, .unset, .unset] [(.int (p2 &&& (7 : Int32)))])) _
    refine XS.iconst X0.here hx rfl (hb hby at_4) ?_
    show Steps p.tables e below (s₁.setTop (mkF m 5 #[.val (.int p1), .val (.int p2), .unset, .unset, .unset, .unset, .unset, .unset] [(.int (1 : Int32)), (.int (p2 &&& (7 : Int32)))])) _
    refine XS.iadd X0.here hx rfl (hb hby at_5) rfl ?_
    show Steps p.tables e below (s₁.setTop (mkF m 6 #[.val (.int p1), .val (.int p2), .unset, .unset, .unset, .unset, .unset, .unset] [(.int (own_d p2))])) _
    refine XS.istoreN X0.here hx rfl (hb hby at_6) rfl (l' := #[.val (.int p1), .val (.int p2), .val (.int (own_d p2)), .unset, .unset, .unset, .unset, .unset]) rfl ?_
    show Steps p.tables e below (s₁.setTop (mkF m 7 #[.val (.int p1), .val (.int p2), .val (.int (own_d p2)), .unset, .unset, .unset, .unset, .unset] [])) _
    refine XS.iloadN X0.here hx rfl (hb hby at_7) rfl ?_
    show Steps p.tables e below (s₁.setTop (mkF m 8 #[.val (.int p1), .val (.int p2), .val (.int (own_d p2)), .unset, .unset, .unset, .unset, .unset] [(.int p1)])) _
    refine X0.ldcInt hx hown (mvT hZ (hw _ (List.mem_of_getElem? (i := 0) rfl))) (g := (mkF m 8 #[.val (.int p1), .val (.int p2), .val (.int (own_d p2)), .unset, .unset, .unset, .unset, .unset] [(.int p1)])) rfl (hb hby at_8) _ ?_
    show Steps p.tables e below (s₁.setTop (mkF m 10 #[.val (.int p1), .val (.int p2), .val (.int (own_d p2)), .unset, .unset, .unset, .unset, .unset] [(.int (2147483647 : Int32)), (.int p1)])) _
    refine XS.iand X0.here hx rfl (hb hby at_10) rfl ?_
    show Steps p.tables e below (s₁.setTop (mkF m 11 #[.val (.int p1), .val (.int p2), .val (.int (own_d p2)), .unset, .unset, .unset, .unset, .unset] [(.int (p1 &&& (2147483647 : Int32)))])) _
    refine XS.iloadN X0.here hx rfl (hb hby at_11) rfl ?_
    show Steps p.tables e below (s₁.setTop (mkF m 12 #[.val (.int p1), .val (.int p2), .val (.int (own_d p2)), .unset, .unset, .unset, .unset, .unset] [(.int (own_d p2)), (.int (p1 &&& (2147483647 : Int32)))])) _
    refine XS.iconst X0.here hx rfl (hb hby at_12) ?_
    show Steps p.tables e below (s₁.setTop (mkF m 13 #[.val (.int p1), .val (.int p2), .val (.int (own_d p2)), .unset, .unset, .unset, .unset, .unset] [(.int (1 : Int32)), (.int (own_d p2)), (.int (p1 &&& (2147483647 : Int32)))])) _
    refine XS.iadd X0.here hx rfl (hb hby at_13) rfl ?_
    show Steps p.tables e below (s₁.setTop (mkF m 14 #[.val (.int p1), .val (.int p2), .val (.int (own_d p2)), .unset, .unset, .unset, .unset, .unset] [(.int ((own_d p2) + (1 : Int32))), (.int (p1 &&& (2147483647 : Int32)))])) _
    refine XS.irem X0.here hx rfl (hb hby at_14) rfl hnz14 ?_
    show Steps p.tables e below (s₁.setTop (mkF m 15 #[.val (.int p1), .val (.int p2), .val (.int (own_d p2)), .unset, .unset, .unset, .unset, .unset] [(.int (own_k p1 p2))])) _
    refine XS.istoreN X0.here hx rfl (hb hby at_15) rfl (l' := #[.val (.int p1), .val (.int p2), .val (.int (own_d p2)), .val (.int (own_k p1 p2)), .unset, .unset, .unset, .unset]) rfl ?_
    show Steps p.tables e below (s₁.setTop (mkF m 16 #[.val (.int p1), .val (.int p2), .val (.int (own_d p2)), .val (.int (own_k p1 p2)), .unset, .unset, .unset, .unset] [])) _
    refine XS.iloadN X0.here hx rfl (hb hby at_16) rfl ?_
    show Steps p.tables e below (s₁.setTop (mkF m 17 #[.val (.int p1), .val (.int p2), .val (.int (own_d p2)), .val (.int (own_k p1 p2)), .unset, .unset, .unset, .unset] [(.int (own_k p1 p2))])) _
    refine XS.i2dS X0.here hx rfl (hb hby at_17) rfl rfl ?_
    show Steps p.tables e below (s₁.setTop (mkF m 18 #[.val (.int p1), .val (.int p2), .val (.int (own_d p2)), .val (.int (own_k p1 p2)), .unset, .unset, .unset, .unset] [(.double (FP.i2d (own_k p1 p2)))])) _
    refine XS.iloadN X0.here hx rfl (hb hby at_18) rfl ?_
    show Steps p.tables e below (s₁.setTop (mkF m 19 #[.val (.int p1), .val (.int p2), .val (.int (own_d p2)), .val (.int (own_k p1 p2)), .unset, .unset, .unset, .unset] [(.int (own_d p2)), (.double (FP.i2d (own_k p1 p2)))])) _
    refine XS.i2dS X0.here hx rfl (hb hby at_19) rfl rfl ?_
    show Steps p.tables e below (s₁.setTop (mkF m 20 #[.val (.int p1), .val (.int p2), .val (.int (own_d p2)), .val (.int (own_k p1 p2)), .unset, .unset, .unset, .unset] [(.double (FP.i2d (own_d p2))), (.double (FP.i2d (own_k p1 p2)))])) _
    refine XS.ddivS X0.here hx rfl (hb hby at_20) rfl hnn20 rfl ?_
    show Steps p.tables e below (s₁.setTop (mkF m 21 #[.val (.int p1), .val (.int p2), .val (.int (own_d p2)), .val (.int (own_k p1 p2)), .unset, .unset, .unset, .unset] [(.double (own_w p1 p2))])) _
    refine XS.dstore X0.here hx rfl (hb hby at_21) rfl (l' := #[.val (.int p1), .val (.int p2), .val (.int (own_d p2)), .val (.int (own_k p1 p2)), .val (.double (own_w p1 p2)), .second, .unset, .unset]) rfl ?_
    show Steps p.tables e below (s₁.setTop (mkF m 23 #[.val (.int p1), .val (.int p2), .val (.int (own_d p2)), .val (.int (own_k p1 p2)), .val (.double (own_w p1 p2)), .second, .unset, .unset] [])) _
    refine XS.dload X0.here hx rfl (hb hby at_23) rfl ?_
    show Steps p.tables e below (s₁.setTop (mkF m 25 #[.val (.int p1), .val (.int p2), .val (.int (own_d p2)), .val (.int (own_k p1 p2)), .val (.double (own_w p1 p2)), .second, .unset, .unset] [(.double (own_w p1 p2))])) _
    refine st3 _ ?_
    show Steps p.tables e below (T3.setTop (mkF m 28 #[.val (.int p1), .val (.int p2), .val (.int (own_d p2)), .val (.int (own_k p1 p2)), .val (.double (own_w p1 p2)), .second, .unset, .unset] [(.ref (own_at aM aC aO (own_w p1 p2)))])) _
    refine XS.astore X3.here hx rfl (hb hby at_28) rfl rfl (l' := #[.val (.int p1), .val (.int p2), .val (.int (own_d p2)), .val (.int (own_k p1 p2)), .val (.double (own_w p1 p2)), .second, .val (.ref (own_at aM aC aO (own_w p1 p2))), .unset]) rfl ?_
    show Steps p.tables e below (T3.setTop (mkF m 30 #[.val (.int p1), .val (.int p2), .val (.int (own_d p2)), .val (.int (own_k p1 p2)), .val (.double (own_w p1 p2)), .second, .val (.ref (own_at aM aC aO (own_w p1 p2))), .unset] [])) _
    refine XS.iloadN X3.here hx rfl (hb hby at_30) rfl ?_
    show Steps p.tables e below (T3.setTop (mkF m 31 #[.val (.int p1), .val (.int p2), .val (.int (own_d p2)), .val (.int (own_k p1 p2)), .val (.double (own_w p1 p2)), .second, .val (.ref (own_at aM aC aO (own_w p1 p2))), .unset] [(.int (own_k p1 p2))])) _
    refine XS.iloadN X3.here hx rfl (hb hby at_31) rfl ?_
    show Steps p.tables e below (T3.setTop (mkF m 32 #[.val (.int p1), .val (.int p2), .val (.int (own_d p2)), .val (.int (own_k p1 p2)), .val (.double (own_w p1 p2)), .second, .val (.ref (own_at aM aC aO (own_w p1 p2))), .unset] [(.int (own_d p2)), (.int (own_k p1 p2))])) _
    refine XS.icmpYes X3.here hx rfl (pc0 := 32) (pc' := 43) rfl (hb hby at_32) rfl (feq hc32).2 (by decide) (by decide) ?_
    show Steps p.tables e below (T3.setTop (mkF m 43 #[.val (.int p1), .val (.int p2), .val (.int (own_d p2)), .val (.int (own_k p1 p2)), .val (.double (own_w p1 p2)), .second, .val (.ref (own_at aM aC aO (own_w p1 p2))), .unset] [])) _
    refine XS.iloadN X3.here hx rfl (hb hby at_43) rfl ?_
    show Steps p.tables e below (T3.setTop (mkF m 44 #[.val (.int p1), .val (.int p2), .val (.int (own_d p2)), .val (.int (own_k p1 p2)), .val (.double (own_w p1 p2)), .second, .val (.ref (own_at aM aC aO (own_w p1 p2))), .unset] [(.int (own_k p1 p2))])) _
    refine XS.ifYes X3.here hx rfl (pc0 := 44) (pc' := 55) rfl (hb hby at_44) rfl ((if0 _ _).trans (feq hc44).2) (by decide) (by decide) ?_
    show Steps p.tables e below (T3.setTop (mkF m 55 #[.val (.int p1), .val (.int p2), .val (.int (own_d p2)), .val (.int (own_k p1 p2)), .val (.double (own_w p1 p2)), .second, .val (.ref (own_at aM aC aO (own_w p1 p2))), .unset] [])) _
    refine st5 _ ?_
    show Steps p.tables e below (T5.setTop (mkF m 58 #[.val (.int p1), .val (.int p2), .val (.int (own_d p2)), .val (.int (own_k p1 p2)), .val (.double (own_w p1 p2)), .second, .val (.ref (own_at aM aC aO (own_w p1 p2))), .unset] [(.ref aO)])) _
    refine XS.astore X5.here hx rfl (hb hby at_58) rfl rfl (l' := #[.val (.int p1), .val (.int p2), .val (.int (own_d p2)), .val (.int (own_k p1 p2)), .val (.double (own_w p1 p2)), .second, .val (.ref (own_at aM aC aO (own_w p1 p2))), .val (.ref aO)]) rfl ?_
    show Steps p.tables e below (T5.setTop (mkF m 60 #[.val (.int p1), .val (.int p2), .val (.int (own_d p2)), .val (.int (own_k p1 p2)), .val (.double (own_w p1 p2)), .second, .val (.ref (own_at aM aC aO (own_w p1 p2))), .val (.ref aO)] [])) _
    refine XS.aload X5.here hx rfl (hb hby at_60) rfl rfl ?_
    show Steps p.tables e below (T5.setTop (mkF m 62 #[.val (.int p1), .val (.int p2), .val (.int (own_d p2)), .val (.int (own_k p1 p2)), .val (.double (own_w p1 p2)), .second, .val (.ref (own_at aM aC aO (own_w p1 p2))), .val (.ref aO)] [(.ref (own_at aM aC aO (own_w p1 p2)))])) _
    refine XS.aload X5.here hx rfl (hb hby at_62) rfl rfl ?_
    show Steps p.tables e below (T5.setTop (mkF m 64 #[.val (.int p1), .val (.int p2), .val (.int (own_d p2)), .val (.int (own_k p1 p2)), .val (.double (own_w p1 p2)), .second, .val (.ref (own_at aM aC aO (own_w p1 p2))), .val (.ref aO)] [(.ref aO), (.ref (own_at aM aC aO (own_w p1 p2)))])) _
    refine Jvm.RoadKit.acmp (g := (mkF m 64 #[.val (.int p1), .val (.int p2), .val (.int (own_d p2)), .val (.int (own_k p1 p2)), .val (.double (own_w p1 p2)), .second, .val (.ref (own_at aM aC aO (own_w p1 p2))), .val (.ref aO)] [(.ref aO), (.ref (own_at aM aC aO (own_w p1 p2)))])) X5 hx rfl rfl rfl (pc0 := 64) (pc' := 67) (same := true) rfl (hb hby at_64) rfl (decide_eq_true (congrArg Value.ref ha64)) (by decide) (by decide) ?_
    show Steps p.tables e below (T5.setTop (mkF m 67 #[.val (.int p1), .val (.int p2), .val (.int (own_d p2)), .val (.int (own_k p1 p2)), .val (.double (own_w p1 p2)), .second, .val (.ref (own_at aM aC aO (own_w p1 p2))), .val (.ref aO)] [])) _
    refine XS.iconst X5.here hx rfl (hb hby at_67) ?_
    show Steps p.tables e below (T5.setTop (mkF m 68 #[.val (.int p1), .val (.int p2), .val (.int (own_d p2)), .val (.int (own_k p1 p2)), .val (.double (own_w p1 p2)), .second, .val (.ref (own_at aM aC aO (own_w p1 p2))), .val (.ref aO)] [(.int (1 : Int32))])) _
    refine XS.goto X5.here hx rfl (pc0 := 68) (pc' := 72) rfl (hb hby at_68) (by decide) (by decide) ?_
    show Steps p.tables e below (T5.setTop (mkF m 72 #[.val (.int p1), .val (.int p2), .val (.int (own_d p2)), .val (.int (own_k p1 p2)), .val (.double (own_w p1 p2)), .second, .val (.ref (own_at aM aC aO (own_w p1 p2))), .val (.ref aO)] [(.int (1 : Int32))])) _
    exact retN X5 hx (t := .boolean) Bd.returns (by simp) (hb hby at_72) hr
  · show Q0 Z p1 p2 h0 n0 _ T5.heap _
    rw [e5]
    exact ⟨rfl, N3⟩
theorem rm0 (l : Launch) (Z : State) (a0 : Array Value) (hw : ∀ d ∈ tables_1, d.before a0 Z = true) (ws : List Jvm.Cond) (p1 p2 : Int32) (aM aC aO : Addr) (h0 : Heap) (n0 : Nat) (Z0 : n0 ≤ h0.size) (S_MAKESPAN : Sta Z h0 "com/example/trailplan/trailplan/cli/Measure" "MAKESPAN" "Lcom/example/trailplan/trailplan/cli/Measure;" (.ref aM)) (S_COST : Sta Z h0 "com/example/trailplan/trailplan/cli/Measure" "COST" "Lcom/example/trailplan/trailplan/cli/Measure;" (.ref aC)) (S_OBJECTIVE : Sta Z h0 "com/example/trailplan/trailplan/cli/Measure" "OBJECTIVE" "Lcom/example/trailplan/trailplan/cli/Measure;" (.ref aO)) :
    MetFree l x (head1 (Jvm.Cond.code x code maxLocals ret :: ws) room_1) (fun a U => a = #[(.int p1), (.int p2)] ∧ Z.Warmed39 U.vm ∧ U.heap = h0) (fun _ _ _ _ _ => True) (fun _ U o U' => ∃ v L, o = .returned v ∧ Q0 Z p1 p2 h0 n0 v U'.heap L ∧ FrameEnd U o U' L room_1.cells room_1.slots) := by
  obtain ⟨f1, f2, f3, f4⟩ := own_facts p1 p2
  by_cases hc32 : own_k p1 p2 = own_d p2
  · exact rm0_a l Z a0 hw ws p1 p2 aM aC aO h0 n0 Z0 S_MAKESPAN S_COST S_OBJECTIVE f2 f1 hc32 (by rw [own_at, if_pos (f3.mpr hc32)])
  · by_cases hc44 : own_k p1 p2 = (0 : Int32)
    · exact rm0_b l Z a0 hw ws p1 p2 aM aC aO h0 n0 Z0 S_MAKESPAN S_COST S_OBJECTIVE f2 f1 hc32 hc44 (by rw [own_at, if_neg (fun q => hc32 (f3.mp q)), if_pos (f4.mpr hc44)])
    · exact rm0_c l Z a0 hw ws p1 p2 aM aC aO h0 n0 Z0 S_MAKESPAN S_COST S_OBJECTIVE f2 f1 hc32 hc44 (by rw [own_at, if_neg (fun q => hc32 (f3.mp q)), if_neg (fun q => hc44 (f4.mp q))])
set_option maxRecDepth 65536 in
set_option maxHeartbeats 40000000 in
theorem comes_1 {Post : Tables → Env → Array Value → State → Outcome → State → Prop} (hpost : ∀ tb e args s v u, (limb_1_1.after args s (.returned v) u = true ∧ limb_1_2.after args s (.returned v) u = true ∧ True) → FrameEnd s (.returned v) u (Jvm.fieldLocs frame_1_writes args s ++ Jvm.arrayLocs frame_1_arrays args s ++ Jvm.staticLocs frame_1_statics s) 0 0 → Post tb e args s (.returned v) u) :
    ArmFor flags0 classFile x code maxLocals ret World_1 tables_1 room_1 Calls_1 rest_1 Pre_1 Post := by
  intro l hfl _ _ p e ha hc hk s m args below hf hA hF happ hP
  obtain ⟨hcalls, hrest, hpre⟩ := hP
  obtain ⟨-, -, -, hnamed, -, -, -, hat⟩ := (Spec.applies_iff hf).mp happ
  obtain ⟨hg, hn⟩ := and_e (Cond.before_iff.mp (show (Jvm.Cond.and given_1 narrow_1).before args s = true from hpre))
  obtain ⟨g6, g7⟩ := and_e hg
  obtain ⟨g8, g9⟩ := and_e g7
  obtain ⟨w0, w1, rfl⟩ : ∃ w0 w1 : Value, args = #[w0, w1] := by
    have hs : args.size = 2 := by simpa [Cond.value, given_1] using g6
    obtain ⟨L⟩ := args
    match L, hs with
    | [w0, w1], _ => exact ⟨w0, w1, rfl⟩
  obtain ⟨n1, n2⟩ := and_e hn
  obtain ⟨n2, n3⟩ := and_e n2
  obtain ⟨aC, vC⟩ := exa_v n1
  obtain ⟨aM, vM⟩ := exa_v n2
  obtain ⟨aO, vO⟩ := exa_v n3
  have hw := fun d (hd : d ∈ tables_1) => atoms_spec (ws := Jvm.Cond.code x code maxLocals ret :: tables_1) hat d (List.mem_cons_of_mem _ hd)
  have hfit : Fit s := fun {y c} hc i hi => by
    obtain ⟨ha, rfl⟩ := Array.getElem?_eq_some_iff.mp hc
    have q := List.all_eq_true.mp ((Array.all_eq_true_iff_forall_mem.mp hF) _ (Array.getElem_mem ha)) i (List.mem_range.mpr hi)
    simpa [Array.getElem?_eq_getElem hi] using q
  obtain ⟨i0, ei0⟩ := is_v g8
  obtain rfl : w0 = (.int i0) := Option.some.inj ei0
  obtain ⟨i1, ei1⟩ := is_v g9
  obtain rfl : w1 = (.int i1) := Option.some.inj ei1
  obtain ⟨n, o, h1, h2, h3, _, L, rfl, ⟨rfl, N⟩, hq⟩ := rm0 l s _ hw tables_1 i0 i1 aM aC aO s.heap s.heap.size (Nat.le_refl _) (Sta.start vM (Or.inr ⟨(hw _ (List.mem_of_getElem? (i := 3) rfl)), (hw _ (List.mem_of_getElem? (i := 9) rfl))⟩)) (Sta.start vC (Or.inr ⟨(hw _ (List.mem_of_getElem? (i := 3) rfl)), (hw _ (List.mem_of_getElem? (i := 6) rfl))⟩)) (Sta.start vO (Or.inr ⟨(hw _ (List.mem_of_getElem? (i := 3) rfl)), (hw _ (List.mem_of_getElem? (i := 12) rfl))⟩)) p e ha hc hk s m _ below hf ((Spec.applies_iff_loose hf).mp happ).1 ⟨rfl, State.Warmed39.refl s, rfl⟩ trivial
  refine ⟨n, _, h1, h2, h3, hpost _ _ _ _ _ _ ⟨Cond.after_iff.mpr rfl, Cond.after_iff.mpr (eq_i res_at (Term.int_eval (1)) rfl), trivial⟩ ⟨hq.1, hq.2.1, (hq.2.2.sift fun y hy => Or.inr (N y hy)).mono (by decide) (by decide)⟩⟩
theorem main_1_1 : Claimed_1_1 := comes_1 fun _ _ _ _ _ _ h hF => ⟨h.1, hF⟩
theorem main_1_2 : Claimed_1_2 := comes_1 fun _ _ _ _ _ _ h hF => ⟨h.2.1, hF⟩
end Jvm.Pilot.@@N@@
namespace Jvm.Pilot.@@N@@
open Jvm Jvm.ClassFile Sem Op Lib Jvm.Free Jvm.Stand Jvm.Pilot.@@N@@.Jvm.D
/-! MADE BY PROGRAM (witnessworld.py) out of the Statement's table words and the real class files: 15 classes; the members and pool entries that the words name. The judged class is class 1, her method 1. -/
namespace start1
open Jvm.ClassFile
def u (s : String) : CpInfo := .utf8 (stringToUtf16 s)
/-- a pool by its gaps: so many unusable entries, then the entry; so many at the end -/
def gap : Nat → List CpInfo → List CpInfo
  | 0, r => r
  | n + 1, r => .unusable :: gap n r
def poolList (es : List (Nat × CpInfo)) (last : Nat) : List CpInfo := es.foldr (fun e r => gap e.1 (e.2 :: r)) (gap last [])
def pool (es : List (Nat × CpInfo)) (last : Nat) : Array CpInfo := ⟨poolList es last⟩
def fileOf (pool : Array CpInfo) (this : Nat) (attrs : Array Attribute := #[]) (ms : Array MethodInfo := #[]) (fl : Nat := 33) (sup : Nat := 0) (ifs : Array Nat := #[]) (fds : Array FieldInfo := #[]) : ClassFile where
  minorVersion := 0
  majorVersion := 65
  constantPool := pool
  accessFlags := fl
  thisClass := this
  superClass := sup
  interfaces := ifs
  fields := fds
  methods := ms
  attributes := attrs
def plain (name : String) (sup : Option ClassId) : Class where
  name := name
  kind := .ordinary
  loader := none
  accessFlags := 33
  super := sup
  interfaces := #[]
  cf := none
  fields := #[]
  methods := #[]
  instanceTypes := #[]
  staticTypes := #[]
  resolved := #[]
  callSites := []
  init := .initialized
  statics := none
  mirror := none

def pool0 : Array CpInfo := pool [(5, u "<init>"), (0, u "()V"), (1, .class_ 10), (1, u "java/lang/Object")] 113

def k0m0 : Method := { name := "<init>", desc := "()V", sig := { parameters := [], returnType := none }, accessFlags := 1, code := none }
/-- java/lang/Object -/
def k0 : Class := { plain "java/lang/Object" none with
  accessFlags := 33
  interfaces := #[]
  cf := some (fileOf pool0 8 #[] #[{ accessFlags := 1, nameIndex := 5, descriptorIndex := 6, attributes := #[] }] 33 0 #[] #[])
  fields := #[]
  methods := #[k0m0]
  instanceTypes := #[]
  staticTypes := #[]
  resolved := Array.replicate 124 none
  statics := none }

def pool1 : Array CpInfo := pool [(2, .class_ 4), (1, u "java/lang/Object"), (0, u "<init>"), (0, u "()V"), (0, .integer 2147483647), (0, .methodref 9 10), (0, .class_ 11), (0, .nameAndType 12 13), (0, u "com/example/trailplan/trailplan/cli/Measure"), (0, u "at"), (0, u "(D)Lcom/example/trailplan/trailplan/cli/Measure;"), (0, .fieldref 9 15), (0, .nameAndType 16 17), (0, u "MAKESPAN"), (0, u "Lcom/example/trailplan/trailplan/cli/Measure;"), (0, .fieldref 9 19), (0, .nameAndType 20 17), (0, u "COST"), (0, .fieldref 9 22), (0, .nameAndType 23 17), (0, u "OBJECTIVE"), (0, .class_ 25), (0, u "com/example/trailplan/trailplan/cli/MeasureAtPinLaw"), (2, u "law"), (0, u "(II)Z")] 3

def k1m0 : Method := { name := "<init>", desc := "()V", sig := { parameters := [], returnType := none }, accessFlags := 2, code := none }
def k1c1 : Code := { maxStack := 4, maxLocals := 8, code := code, exceptionTable := #[], attributes := #[] }
def k1m1 : Method := { name := "law", desc := "(II)Z", sig := { parameters := [.int, .int], returnType := some .boolean }, accessFlags := 9, code := some k1c1 }
/-- com/example/trailplan/trailplan/cli/MeasureAtPinLaw -/
def k1 : Class := { plain "com/example/trailplan/trailplan/cli/MeasureAtPinLaw" (some 0) with
  accessFlags := 49
  interfaces := #[]
  cf := some (fileOf pool1 24 #[] #[{ accessFlags := 2, nameIndex := 5, descriptorIndex := 6, attributes := #[] }, { accessFlags := 9, nameIndex := 28, descriptorIndex := 29, attributes := #[] }] 49 2 #[] #[])
  fields := #[]
  methods := #[k1m0, k1m1]
  instanceTypes := #[]
  staticTypes := #[]
  resolved := Array.replicate 33 none
  statics := none }

def pool2 : Array CpInfo := pool [(1, .class_ 2), (0, u "java/lang/constant/Constable"), (0, .class_ 4), (0, u "java/lang/Object")] 6

/-- java/lang/constant/Constable -/
def k2 : Class := { plain "java/lang/constant/Constable" (some 0) with
  accessFlags := 1537
  interfaces := #[]
  cf := some (fileOf pool2 1 #[] #[] 1537 3 #[] #[])
  fields := #[]
  methods := #[]
  instanceTypes := #[]
  staticTypes := #[]
  resolved := Array.replicate 11 none
  statics := none }

def pool3 : Array CpInfo := pool [(1, .class_ 2), (0, u "java/lang/Comparable"), (0, .class_ 4), (0, u "java/lang/Object")] 7

/-- java/lang/Comparable -/
def k3 : Class := { plain "java/lang/Comparable" (some 0) with
  accessFlags := 1537
  interfaces := #[]
  cf := some (fileOf pool3 1 #[] #[] 1537 3 #[] #[])
  fields := #[]
  methods := #[]
  instanceTypes := #[]
  staticTypes := #[]
  resolved := Array.replicate 12 none
  statics := none }

def pool4 : Array CpInfo := pool [(1, .class_ 2), (0, u "java/io/Serializable"), (0, .class_ 4), (0, u "java/lang/Object")] 2

/-- java/io/Serializable -/
def k4 : Class := { plain "java/io/Serializable" (some 0) with
  accessFlags := 1537
  interfaces := #[]
  cf := some (fileOf pool4 1 #[] #[] 1537 3 #[] #[])
  fields := #[]
  methods := #[]
  instanceTypes := #[]
  staticTypes := #[]
  resolved := Array.replicate 7 none
  statics := none }

def pool5 : Array CpInfo := pool [(2, .class_ 4), (1, u "java/lang/Enum"), (0, u "name"), (0, u "Ljava/lang/String;"), (2, u "ordinal"), (0, u "I"), (1, .class_ 14), (1, u "java/lang/Object"), (4, u "hash"), (86, .class_ 108), (1, u "java/lang/Enum$EnumDesc"), (2, .class_ 112), (0, u "java/lang/constant/Constable"), (0, .class_ 114), (0, u "java/lang/Comparable"), (0, .class_ 116), (0, u "java/io/Serializable")] 87

/-- java/lang/Enum -/
def k5 : Class := { plain "java/lang/Enum" (some 0) with
  accessFlags := 1057
  interfaces := #[2, 3, 4]
  cf := some (fileOf pool5 2 #[.nestMembers #[106]] #[] 1057 12 #[111, 113, 115] #[{ accessFlags := 18, nameIndex := 5, descriptorIndex := 6, attributes := #[] }, { accessFlags := 18, nameIndex := 9, descriptorIndex := 10, attributes := #[] }, { accessFlags := 2, nameIndex := 19, descriptorIndex := 10, attributes := #[] }])
  fields := #[{ name := "name", type := (.object "java/lang/String"), accessFlags := 18, slot := 0, constantValue := 0 }, { name := "ordinal", type := .int, accessFlags := 18, slot := 1, constantValue := 0 }, { name := "hash", type := .int, accessFlags := 2, slot := 2, constantValue := 0 }]
  methods := #[]
  instanceTypes := #[(.object "java/lang/String"), .int, .int]
  staticTypes := #[]
  resolved := Array.replicate 204 none
  statics := none }

def pool6 : Array CpInfo := pool [(1, .class_ 2), (0, u "com/example/trailplan/trailplan/cli/Measure"), (0, .fieldref 1 4), (0, .nameAndType 5 6), (0, u "MAKESPAN"), (0, u "Lcom/example/trailplan/trailplan/cli/Measure;"), (0, .fieldref 1 8), (0, .nameAndType 9 6), (0, u "COST"), (0, .fieldref 1 11), (0, .nameAndType 12 6), (0, u "OBJECTIVE"), (2, u "$VALUES"), (0, u "[Lcom/example/trailplan/trailplan/cli/Measure;"), (6, .class_ 25), (1, u "java/lang/Enum"), (8, u "decimals"), (0, u "I"), (16, .class_ 53), (0, u "com/example/trailplan/trailplan/cli/Measure$1"), (4, .class_ 59), (0, u "com/example/trailplan/trailplan/cli/Measure$2"), (2, .class_ 63), (0, u "com/example/trailplan/trailplan/cli/Measure$3"), (13, u "at"), (0, u "(D)Lcom/example/trailplan/trailplan/cli/Measure;")] 15

def k6c0 : Code := { maxStack := 4, maxLocals := 2, code := prog_3_method_4_code, exceptionTable := #[], attributes := #[] }
def k6m0 : Method := { name := "at", desc := "(D)Lcom/example/trailplan/trailplan/cli/Measure;", sig := { parameters := [.double], returnType := some (.object "com/example/trailplan/trailplan/cli/Measure") }, accessFlags := 8, code := some k6c0 }
/-- com/example/trailplan/trailplan/cli/Measure -/
def k6 : Class := { plain "com/example/trailplan/trailplan/cli/Measure" (some 5) with
  accessFlags := 17440
  interfaces := #[]
  cf := some (fileOf pool6 1 #[.nestMembers #[62, 58, 52]] #[{ accessFlags := 8, nameIndex := 77, descriptorIndex := 78, attributes := #[] }] 17440 23 #[] #[{ accessFlags := 16409, nameIndex := 5, descriptorIndex := 6, attributes := #[] }, { accessFlags := 16409, nameIndex := 9, descriptorIndex := 6, attributes := #[] }, { accessFlags := 16409, nameIndex := 12, descriptorIndex := 6, attributes := #[] }, { accessFlags := 18, nameIndex := 34, descriptorIndex := 35, attributes := #[] }, { accessFlags := 4122, nameIndex := 15, descriptorIndex := 16, attributes := #[] }])
  fields := #[{ name := "MAKESPAN", type := (.object "com/example/trailplan/trailplan/cli/Measure"), accessFlags := 16409, slot := 0, constantValue := 0 }, { name := "COST", type := (.object "com/example/trailplan/trailplan/cli/Measure"), accessFlags := 16409, slot := 1, constantValue := 0 }, { name := "OBJECTIVE", type := (.object "com/example/trailplan/trailplan/cli/Measure"), accessFlags := 16409, slot := 2, constantValue := 0 }, { name := "decimals", type := .int, accessFlags := 18, slot := 3, constantValue := 0 }, { name := "$VALUES", type := (.array (.object "com/example/trailplan/trailplan/cli/Measure")), accessFlags := 4122, slot := 3, constantValue := 0 }]
  methods := #[k6m0]
  instanceTypes := #[(.object "java/lang/String"), .int, .int, .int]
  staticTypes := #[(.object "com/example/trailplan/trailplan/cli/Measure"), (.object "com/example/trailplan/trailplan/cli/Measure"), (.object "com/example/trailplan/trailplan/cli/Measure"), (.array (.object "com/example/trailplan/trailplan/cli/Measure"))]
  resolved := Array.replicate 94 none
  statics := some 0 }

def pool7 : Array CpInfo := pool [(2, .class_ 4), (1, u "com/example/trailplan/trailplan/cli/Measure"), (17, .class_ 23), (0, u "com/example/trailplan/trailplan/cli/Measure$1")] 12

/-- com/example/trailplan/trailplan/cli/Measure$1 -/
def k7 : Class := { plain "com/example/trailplan/trailplan/cli/Measure$1" (some 6) with
  accessFlags := 16432
  interfaces := #[]
  cf := some (fileOf pool7 22 #[.nestHost 2] #[] 16432 2 #[] #[])
  fields := #[]
  methods := #[]
  instanceTypes := #[(.object "java/lang/String"), .int, .int, .int]
  staticTypes := #[]
  resolved := Array.replicate 36 none
  statics := none }

def pool8 : Array CpInfo := pool [(2, .class_ 4), (1, u "com/example/trailplan/trailplan/cli/Measure"), (11, .class_ 17), (0, u "com/example/trailplan/trailplan/cli/Measure$2")] 11

/-- com/example/trailplan/trailplan/cli/Measure$2 -/
def k8 : Class := { plain "com/example/trailplan/trailplan/cli/Measure$2" (some 6) with
  accessFlags := 16432
  interfaces := #[]
  cf := some (fileOf pool8 16 #[.nestHost 2] #[] 16432 2 #[] #[])
  fields := #[]
  methods := #[]
  instanceTypes := #[(.object "java/lang/String"), .int, .int, .int]
  staticTypes := #[]
  resolved := Array.replicate 29 none
  statics := none }

def pool9 : Array CpInfo := pool [(2, .class_ 4), (1, u "com/example/trailplan/trailplan/cli/Measure"), (13, .class_ 19), (0, u "com/example/trailplan/trailplan/cli/Measure$3")] 11

/-- com/example/trailplan/trailplan/cli/Measure$3 -/
def k9 : Class := { plain "com/example/trailplan/trailplan/cli/Measure$3" (some 6) with
  accessFlags := 16432
  interfaces := #[]
  cf := some (fileOf pool9 18 #[.nestHost 2] #[] 16432 2 #[] #[])
  fields := #[]
  methods := #[]
  instanceTypes := #[(.object "java/lang/String"), .int, .int, .int]
  staticTypes := #[]
  resolved := Array.replicate 31 none
  statics := none }

def pool10 : Array CpInfo := pool [(1, u "java/lang/Cloneable"), (0, .class_ 1), (0, u "java/lang/Object"), (0, .class_ 3)] 3

/-- java/lang/Cloneable -/
def k10 : Class := { plain "java/lang/Cloneable" (some 0) with
  accessFlags := 1537
  interfaces := #[]
  cf := some (fileOf pool10 2 #[] #[] 1537 4 #[] #[])
  fields := #[]
  methods := #[]
  instanceTypes := #[]
  staticTypes := #[]
  resolved := Array.replicate 8 none
  statics := none }

/-- the primitive byte -/
def k11 : Class := { plain "byte" none with kind := .primitive 'B', accessFlags := 0x411 }
/-- [B -/
def k12 : Class := { plain "[B" (some 0) with kind := .array 11 .byte, interfaces := #[10, 4], accessFlags := 1041 }

/-- the primitive int -/
def k13 : Class := { plain "int" none with kind := .primitive 'I', accessFlags := 0x411 }
/-- [I -/
def k14 : Class := { plain "[I" (some 0) with kind := .array 13 .int, interfaces := #[10, 4], accessFlags := 1041 }

def heap : Heap := #[{ cls := 6, slots := #[.ref 1, .ref 2, .ref 3, .null], vm := .statics 6 },
  { cls := 7, slots := #[.null, .int 0, .int 0, .int 0], vm := .none },
  { cls := 8, slots := #[.null, .int 1, .int 0, .int 0], vm := .none },
  { cls := 9, slots := #[.null, .int 2, .int 0, .int 0], vm := .none }]
def classes : Array Class := #[k0, k1, k2, k3, k4, k5, k6, k7, k8, k9, k10, k11, k12, k13, k14]
def interned : List (Array UInt16 × Addr) := []
def slotsUsed : Nat := 16
def theMethod : MethodId := ⟨1, 1⟩
def args0 : Array Value := #[.int 5, .int 7]
def aboutOver (below : List Frame) : State where
  vm := { classes := classes, interned := interned.toArray }
  heap := heap
  slotsUsed := slotsUsed
  threads := #[{ frames := .invoking theMethod args0 :: below }]
def below0 : List Frame := [.native { method := ⟨0, 0⟩, args := #[] }]
def about1 : State := aboutOver below0
def p0 : Program := .bare "" "" ""
def e0 : Env := launch0.env 0 0 0
theorem w_frames : about1.frames = Frame.invoking theMethod args0 :: below0 := rfl
set_option maxRecDepth 65536 in
theorem w_args : argsFit about1.vm theMethod args0 = true := by decide +kernel
set_option maxRecDepth 65536 in
theorem w_heap : heapFits about1 = true := by decide +kernel
set_option maxRecDepth 65536 in
theorem w_runnable : about1.curStatus? = some .runnable := by decide +kernel
set_option maxRecDepth 65536 in
theorem w_alone : about1.alone = true := by decide +kernel
set_option maxRecDepth 65536 in
theorem w_named : about1.methodNamed? x = some theMethod := by decide +kernel
set_option maxRecDepth 65536 in
theorem w_hears : about1.hears theMethod below0 = true := by decide +kernel
set_option maxRecDepth 65536 in
theorem w_ripe : about1.ripe theMethod args0 below0 = true := by decide +kernel
theorem w_running : about1.status = .running := rfl
set_option maxRecDepth 65536 in
theorem w_room : about1.hasRoom e0.platform room_1 = true :=
  launch0.hasRoom_least _ room_1 (by decide +kernel) (by decide +kernel) (by decide +kernel) (by decide +kernel) (by decide +kernel) (by decide +kernel)
theorem allAtoms_all (ts : List Jvm.Cond) (a : Array Jvm.Value) (st : Jvm.State) : (allAtoms ts).before a st = ts.all (fun c => c.before a st) := by
  induction ts with
  | nil => rfl
  | cons c t ih =>
    show (Jvm.Cond.and c (allAtoms t)).before a st = _
    rw [Jvm.Cond.before_and, ih, List.all_cons]
def words1 : List Jvm.Cond := Jvm.Cond.code x code maxLocals ret :: tables_1
/-- a 'code' word, met by the world's own term for the bytes: nothing is compared byte by byte -/
theorem code_word {y : MethodName} {bytes : ByteArray} {mx : Nat} {rt : Option FieldType} {a : Array Value} {s : State} {m : MethodId} {meth : Method} {c : Code} (h1 : s.methodNamed? y = some m) (h2 : s.vm.method? m = some meth) (h3 : meth.code = some c) (h4 : c.code = bytes)
    (h5 : (c.maxLocals == mx && c.exceptionTable.isEmpty && decide (c.maxStack ≤ mostOperands) && decide (meth.sig.returnType = rt) && !meth.locks && decide (parseMethodDescriptor y.desc = some meth.sig)) = true) : (Jvm.Cond.code y bytes mx rt).before a s = true := by
  simp only [Bool.and_eq_true, beq_iff_eq, Bool.not_eq_true', decide_eq_true_eq] at h5
  obtain ⟨⟨⟨⟨⟨g1, g2⟩, g3⟩, g4⟩, g5⟩, g6⟩ := h5
  simp [Cond.before, Cond.holds, Cond.value, h1, h2, h3, h4, g1, g2, g3, g4, g5, g6]
def isCode : Jvm.Cond → Bool
  | .code _ _ _ _ => true
  | _ => false
theorem all_split {L : List Jvm.Cond} {P : Jvm.Cond → Bool} (h1 : L.all (fun c => isCode c || P c) = true) (h2 : ∀ c ∈ L.filter isCode, P c = true) : L.all P = true := by
  refine List.all_eq_true.mpr fun c hc => ?_
  have h := List.all_eq_true.mp h1 c hc
  rcases Bool.eq_false_or_eq_true (isCode c) with hi | hi
  · exact h2 c (List.mem_filter.mpr ⟨hc, hi⟩)
  · simpa [hi] using h
set_option maxRecDepth 65536 in
theorem w_c0 : (Jvm.Cond.code x code maxLocals ret).before args0 about1 = true := code_word (m := ⟨1, 1⟩) (meth := k1m1) (c := k1c1) (by decide +kernel) rfl rfl rfl (by decide +kernel)
set_option maxRecDepth 65536 in
theorem w_c1 : (Jvm.Cond.code ({ cls := "com/example/trailplan/trailplan/cli/Measure", name := "at", desc := "(D)Lcom/example/trailplan/trailplan/cli/Measure;" } : Jvm.MethodName) prog_3_method_4_code (2 : Nat) (Option.some (Jvm.ClassFile.FieldType.object "com/example/trailplan/trailplan/cli/Measure"))).before args0 about1 = true := code_word (m := ⟨6, 0⟩) (meth := k6m0) (c := k6c0) (by decide +kernel) rfl rfl rfl (by decide +kernel)
def codes1 : List Jvm.Cond := [Jvm.Cond.code x code maxLocals ret, Jvm.Cond.code ({ cls := "com/example/trailplan/trailplan/cli/Measure", name := "at", desc := "(D)Lcom/example/trailplan/trailplan/cli/Measure;" } : Jvm.MethodName) prog_3_method_4_code (2 : Nat) (Option.some (Jvm.ClassFile.FieldType.object "com/example/trailplan/trailplan/cli/Measure"))]
set_option maxRecDepth 65536 in
theorem codes_eq : words1.filter isCode = codes1 := rfl
theorem w_codes : ∀ c ∈ words1.filter isCode, c.before args0 about1 = true := by
  rw [codes_eq]
  intro c hc
  simp only [codes1, List.mem_cons, List.not_mem_nil, or_false] at hc
  rcases hc with rfl | rfl
  · exact w_c0
  · exact w_c1
set_option maxRecDepth 65536 in
theorem w_t1 : words1.all (fun c => isCode c || c.before args0 about1) = true := by decide +kernel
theorem w_tables : (allAtoms (Jvm.Cond.code x code maxLocals ret :: tables_1)).before args0 about1 = true := by
  rw [allAtoms_all]
  show words1.all (fun c => c.before args0 about1) = true
  refine all_split ?_ w_codes
  rw [w_t1]
set_option maxRecDepth 65536 in
theorem w_case : (Jvm.Cond.and given_1 narrow_1).before args0 about1 = true := by decide +kernel
theorem w_applies : (headSpec (Jvm.Cond.code x code maxLocals ret :: tables_1) room_1).applies x e0.platform about1 = true :=
  (Spec.applies_iff w_frames).mpr ⟨w_running, w_runnable, w_alone, w_named, w_hears, w_ripe, w_room, w_tables⟩
theorem atStart : AtStart classFile x code maxLocals ret World_1 tables_1 room_1 Calls_1 rest_1 Pre_1 launch0 p0 e0 about1 theMethod args0 below0 :=
  ⟨lists_1, trivial, launch0.admits_env _ _ _, launch0.least_env, fairChoices_fair.cas, fairChoices_fair.clock, w_frames, w_args, w_heap, w_applies, trivial, trivial, w_case⟩
end start1
theorem witness_1 : WitnessClaimed_1 := ⟨start1.p0, start1.e0, start1.about1, start1.theMethod, start1.args0, start1.below0, start1.atStart⟩
end Jvm.Pilot.@@N@@
