import JvmDerived
import JvmDerived.Pilot.@@N@@Statement
import JvmDerived.Pilot.@@N@@Code
set_option linter.unusedVariables false
set_option linter.unusedSimpArgs false
namespace Jvm.RoadKit
open Sem ClassFile Op Lib Jvm.Stand Jvm.Free Jvm.LawKit
section New
variable {p : Program} {l : Launch} {e : Env} {R : Room} {s : State} {m : MethodId} {args : Array Value} {below : List Frame} {meth : Method} {c : Code} {T : State} {locs : List Loc} {cells slots : Nat}
theorem retI (X : Stand p l e R s m args below meth c T locs cells slots) (hx : p.tables.exec = Jvm.exec) {pc : Nat} {Ls : Array Slot} {z : Int32} {rest : List Value} (hret : meth.sig.returnType = some .int) (hd : decode c.code pc = .ok (.ireturn, 1)) {fs : List Frame}
    (hl : ∀ (f : JFrame) (acts : List Action), f.method = m → f.locked = none → f.entered = [] → (doReturn e (T.setTop f) acts (some (.int z))).1 = T.setFrames fs) : Steps p.tables e below (T.setTop (mkF m pc Ls (.int z :: rest))) (T.setFrames fs) := by
  have hm' : T.vm.method? m = some meth := X.method'
  have hn : narrow .int (.int z) = .int z := rfl
  show Steps p.tables e below (T.setTop { method := m, pc := pc, locals := Ls, stack := _ :: rest, locked := none }) _
  jvm_step X.here [X.here.top, hx, hd, hm', hret, hn]
  first | (intro acts; rw [hl _ acts rfl rfl rfl]) | rw [hl _ _ rfl rfl rfl]
  exact Steps.refl _
end New
end Jvm.RoadKit
namespace Jvm.Pilot.@@N@@
open Jvm Jvm.ClassFile Sem Op Lib Jvm.Free Jvm.Stand Jvm.LawKit Jvm.RoadKit Bundle Jvm.Pilot.@@N@@.Jvm.D
theorem d1_0 : decode prog_46_method_1_code 0 = .ok (.aload_n 0, 1) := by decide +kernel
theorem d1_1 : decode prog_46_method_1_code 1 = .ok (.invokespecial 1, 3) := by decide +kernel
theorem d1_4 : decode prog_46_method_1_code 4 = .ok (.aload_n 0, 1) := by decide +kernel
theorem d1_5 : decode prog_46_method_1_code 5 = .ok (.iload_n 1, 1) := by decide +kernel
theorem d1_6 : decode prog_46_method_1_code 6 = .ok (.putfield 7, 3) := by decide +kernel
theorem d1_9 : decode prog_46_method_1_code 9 = .ok (.aload_n 0, 1) := by decide +kernel
theorem d1_10 : decode prog_46_method_1_code 10 = .ok (.iload_n 2, 1) := by decide +kernel
theorem d1_11 : decode prog_46_method_1_code 11 = .ok (.putfield 13, 3) := by decide +kernel
theorem d1_14 : decode prog_46_method_1_code 14 = .ok (.aload_n 0, 1) := by decide +kernel
theorem d1_15 : decode prog_46_method_1_code 15 = .ok (.iload_n 3, 1) := by decide +kernel
theorem d1_16 : decode prog_46_method_1_code 16 = .ok (.putfield 16, 3) := by decide +kernel
theorem d1_19 : decode prog_46_method_1_code 19 = .ok (.return_, 1) := by decide +kernel
theorem pn_1 : plainName "com/example/trailplan/trailplan/model/Assignment" = true := by first | (simp [plainName, overriddenIn]; done) | decide +kernel
theorem ef_1 (m : MethodId) (x0 : Addr) (x1 : Int32) (x2 : Int32) (x3 : Int32) : entryFrame m #[(.ref x0), (.int x1), (.int x2), (.int x3)] 4 = mkF m 0 #[.val (.ref x0), .val (.int x1), .val (.int x2), .val (.int x3)] [] := by first | (simp [entryFrame, mkF, argsToLocals, Value.category]; done) | rfl
def Q1 (Z : State) (a1 : Addr) (p2 : Int32) (p3 : Int32) (p4 : Int32) (u_task_a1 : Value) (u_resource_a1 : Value) (u_start_a1 : Value) (h0 : Heap) (n0 : Nat) (v : Option Value) (h : Heap) (L : List Loc) : Prop := v = none ∧ Fr n0 L ∧ Keep h0 h [a1] ∧ Exa Z h a1 "com/example/trailplan/trailplan/model/Assignment" ∧ Fld Z h a1 "com/example/trailplan/trailplan/model/Assignment" "task" "I" (.int p2) ∧ Fld Z h a1 "com/example/trailplan/trailplan/model/Assignment" "resource" "I" (.int p3) ∧ Fld Z h a1 "com/example/trailplan/trailplan/model/Assignment" "start" "I" (.int p4)
set_option maxRecDepth 65536 in
set_option maxHeartbeats 40000000 in
theorem rm1 (l : Launch) (Z : State) (a0 : Array Value) (hw : ∀ d ∈ tables_1, d.before a0 Z = true) (ws : List Jvm.Cond) (a1 : Addr) (p2 : Int32) (p3 : Int32) (p4 : Int32) (u_task_a1 : Value) (u_resource_a1 : Value) (u_start_a1 : Value) (h0 : Heap) (n0 : Nat) (Z0 : n0 ≤ h0.size) (E_a1 : Exa Z h0 a1 "com/example/trailplan/trailplan/model/Assignment") (F_task_a1 : Fld Z h0 a1 "com/example/trailplan/trailplan/model/Assignment" "task" "I" u_task_a1) (g_a1 : n0 ≤ a1) (F_resource_a1 : Fld Z h0 a1 "com/example/trailplan/trailplan/model/Assignment" "resource" "I" u_resource_a1) (F_start_a1 : Fld Z h0 a1 "com/example/trailplan/trailplan/model/Assignment" "start" "I" u_start_a1) :
    MetFree l (⟨"com/example/trailplan/trailplan/model/Assignment", "<init>", "(III)V"⟩ : MethodName) (head1 (Jvm.Cond.code (⟨"com/example/trailplan/trailplan/model/Assignment", "<init>", "(III)V"⟩ : MethodName) prog_46_method_1_code 4 none :: ws) ({ frames := 1, cells := 0, slots := 0, locals := 12 } : Room)) (fun a U => a = #[(.ref a1), (.int p2), (.int p3), (.int p4)] ∧ Z.Warmed39 U.vm ∧ U.heap = h0) (fun _ _ _ _ _ => True) (fun _ U o U' => ∃ v L, o = .returned v ∧ Q1 Z a1 p2 p3 p4 u_task_a1 u_resource_a1 u_start_a1 h0 n0 v U'.heap L ∧ FrameEnd U o U' L ({ frames := 1, cells := 0, slots := 0, locals := 12 } : Room).cells ({ frames := 1, cells := 0, slots := 0, locals := 12 } : Room).slots) := by
  refine MetFree.of_bodySF (plainFor_of_name pn_1) hisR ?_
  intro p e s m args below meth c s₁ Bd hml0 hP hK
  obtain ⟨rfl, hZ, hh⟩ := hP
  have hx := Bd.exec
  have hby := Bd.bytes
  have hml : c.maxLocals = 4 := hml0
  have hown : s.vm.findClass "com/example/trailplan/trailplan/model/Assignment" = some m.cls := findClass_of_methodNamed Bd.named
  have hnm := (name_of_methodNamed Bd.named Bd.method).1
  have X0 : Stand p l e ({ frames := 1, cells := 0, slots := 0, locals := 12 } : Room) s m #[(.ref a1), (.int p2), (.int p3), (.int p4)] below meth c s₁ [] 0 0 := Stand.of_body Bd
  have e0 : s₁.heap = h0 := by rw [← hh, Bd.state]; rfl
  have N0 := Fr.nil n0
  have pre0 : ∀ t, Steps p.tables e below (s₁.setTop (mkF m 0 #[.val (.ref a1), .val (.int p2), .val (.int p3), .val (.int p4)] [])) t → Steps p.tables e below (s₁.setTop (entryFrame m #[(.ref a1), (.int p2), (.int p3), (.int p4)] 4)) t := fun t k => castTop (ef_1 m a1 p2 p3 p4) k
  obtain ⟨T5, X5, e5, st5⟩ := initO X0 hx hZ hown (hw _ (List.mem_of_getElem? (i := 6) rfl)) (hw _ (List.mem_of_getElem? (i := 7) rfl)) (hw _ (List.mem_of_getElem? (i := 8) rfl)) e0 (g := (mkF m 1 #[.val (.ref a1), .val (.int p2), .val (.int p3), .val (.int p4)] [(.ref a1)])) rfl (by rw [hml]; rfl) rfl (hb hby d1_1) (by decide) (W := 0) (by show 2 * 0 + _ ≤ _; exact Nat.le_of_eq rfl) (by decide)
  obtain ⟨T6, h6, X6, e6, W6, st6⟩ := putF X5 hx hZ hown (host := "") (Or.inl (hw _ (List.mem_of_getElem? (i := 9) rfl))) Via.refl e5 F_task_a1 E_a1 (Or.inr ⟨(hw _ (List.mem_of_getElem? (i := 10) rfl)), rfl, hnm⟩) (hw _ (List.mem_of_getElem? (i := 1) rfl)) (ty := .int) (by decide) rfl rfl (g := (mkF m 6 #[.val (.ref a1), .val (.int p2), .val (.int p3), .val (.int p4)] [(.int p2), (.ref a1)])) rfl rfl (hb hby d1_6)
  have Fw6 := F_task_a1.same W6
  have K6 : Keep h0 h6 [a1] := (Keep.refl h0 [a1]).wr W6 (Or.inl (List.mem_of_getElem? (i := 0) rfl))
  have N6 := Fr.snoc X6 N0 g_a1
  obtain ⟨T7, h7, X7, e7, W7, st7⟩ := putF X6 hx hZ hown (host := "") (Or.inl (hw _ (List.mem_of_getElem? (i := 11) rfl))) Via.refl e6 (F_resource_a1.other W6 (Or.inr (slot_ne (Or.inr (hw _ (List.mem_of_getElem? (i := 12) rfl))) (Or.inr (hw _ (List.mem_of_getElem? (i := 10) rfl))) (by decide) (t := .int) (t' := .int) (by decide) (by decide)))) (E_a1.wr W6) (Or.inr ⟨(hw _ (List.mem_of_getElem? (i := 12) rfl)), rfl, hnm⟩) (hw _ (List.mem_of_getElem? (i := 1) rfl)) (ty := .int) (by decide) rfl rfl (g := (mkF m 11 #[.val (.ref a1), .val (.int p2), .val (.int p3), .val (.int p4)] [(.int p3), (.ref a1)])) rfl rfl (hb hby d1_11)
  have Fw7 := (F_resource_a1.other W6 (Or.inr (slot_ne (Or.inr (hw _ (List.mem_of_getElem? (i := 12) rfl))) (Or.inr (hw _ (List.mem_of_getElem? (i := 10) rfl))) (by decide) (t := .int) (t' := .int) (by decide) (by decide)))).same W7
  have K7 : Keep h0 h7 [a1] := K6.wr W7 (Or.inl (List.mem_of_getElem? (i := 0) rfl))
  have N7 := Fr.snoc X7 N6 g_a1
  obtain ⟨T8, h8, X8, e8, W8, st8⟩ := putF X7 hx hZ hown (host := "") (Or.inl (hw _ (List.mem_of_getElem? (i := 13) rfl))) Via.refl e7 ((F_start_a1.other W6 (Or.inr (slot_ne (Or.inr (hw _ (List.mem_of_getElem? (i := 14) rfl))) (Or.inr (hw _ (List.mem_of_getElem? (i := 10) rfl))) (by decide) (t := .int) (t' := .int) (by decide) (by decide)))).other W7 (Or.inr (slot_ne (Or.inr (hw _ (List.mem_of_getElem? (i := 14) rfl))) (Or.inr (hw _ (List.mem_of_getElem? (i := 12) rfl))) (by decide) (t := .int) (t' := .int) (by decide) (by decide)))) ((E_a1.wr W6).wr W7) (Or.inr ⟨(hw _ (List.mem_of_getElem? (i := 14) rfl)), rfl, hnm⟩) (hw _ (List.mem_of_getElem? (i := 1) rfl)) (ty := .int) (by decide) rfl rfl (g := (mkF m 16 #[.val (.ref a1), .val (.int p2), .val (.int p3), .val (.int p4)] [(.int p4), (.ref a1)])) rfl rfl (hb hby d1_16)
  have Fw8 := ((F_start_a1.other W6 (Or.inr (slot_ne (Or.inr (hw _ (List.mem_of_getElem? (i := 14) rfl))) (Or.inr (hw _ (List.mem_of_getElem? (i := 10) rfl))) (by decide) (t := .int) (t' := .int) (by decide) (by decide)))).other W7 (Or.inr (slot_ne (Or.inr (hw _ (List.mem_of_getElem? (i := 14) rfl))) (Or.inr (hw _ (List.mem_of_getElem? (i := 12) rfl))) (by decide) (t := .int) (t' := .int) (by decide) (by decide)))).same W8
  have K8 : Keep h0 h8 [a1] := K7.wr W8 (Or.inl (List.mem_of_getElem? (i := 0) rfl))
  have N8 := Fr.snoc X8 N7 g_a1
  obtain ⟨fs, hr, hrun, hended, hW, hsame⟩ := X8.leave (v := none) (fun _ => rfl)
  refine ⟨_, _, pre0 _ ?_, hrun, hended, _, _, rfl, ?_, ⟨_, rfl⟩, hW, hsame.mono (by decide) (by decide)⟩
  · show Steps p.tables e below (s₁.setTop (mkF m 0 #[.val (.ref a1), .val (.int p2), .val (.int p3), .val (.int p4)] [])) _
    refine XS.aloadN X0.here hx rfl (hb hby d1_0) rfl rfl ?_
    show Steps p.tables e below (s₁.setTop (mkF m 1 #[.val (.ref a1), .val (.int p2), .val (.int p3), .val (.int p4)] [(.ref a1)])) _
    refine st5 _ ?_
    show Steps p.tables e below (T5.setTop (mkF m 4 #[.val (.ref a1), .val (.int p2), .val (.int p3), .val (.int p4)] [])) _
    refine XS.aloadN X5.here hx rfl (hb hby d1_4) rfl rfl ?_
    show Steps p.tables e below (T5.setTop (mkF m 5 #[.val (.ref a1), .val (.int p2), .val (.int p3), .val (.int p4)] [(.ref a1)])) _
    refine XS.iloadN X5.here hx rfl (hb hby d1_5) rfl ?_
    show Steps p.tables e below (T5.setTop (mkF m 6 #[.val (.ref a1), .val (.int p2), .val (.int p3), .val (.int p4)] [(.int p2), (.ref a1)])) _
    refine st6 _ ?_
    show Steps p.tables e below (T6.setTop (mkF m 9 #[.val (.ref a1), .val (.int p2), .val (.int p3), .val (.int p4)] [])) _
    refine XS.aloadN X6.here hx rfl (hb hby d1_9) rfl rfl ?_
    show Steps p.tables e below (T6.setTop (mkF m 10 #[.val (.ref a1), .val (.int p2), .val (.int p3), .val (.int p4)] [(.ref a1)])) _
    refine XS.iloadN X6.here hx rfl (hb hby d1_10) rfl ?_
    show Steps p.tables e below (T6.setTop (mkF m 11 #[.val (.ref a1), .val (.int p2), .val (.int p3), .val (.int p4)] [(.int p3), (.ref a1)])) _
    refine st7 _ ?_
    show Steps p.tables e below (T7.setTop (mkF m 14 #[.val (.ref a1), .val (.int p2), .val (.int p3), .val (.int p4)] [])) _
    refine XS.aloadN X7.here hx rfl (hb hby d1_14) rfl rfl ?_
    show Steps p.tables e below (T7.setTop (mkF m 15 #[.val (.ref a1), .val (.int p2), .val (.int p3), .val (.int p4)] [(.ref a1)])) _
    refine XS.iloadN X7.here hx rfl (hb hby d1_15) rfl ?_
    show Steps p.tables e below (T7.setTop (mkF m 16 #[.val (.ref a1), .val (.int p2), .val (.int p3), .val (.int p4)] [(.int p4), (.ref a1)])) _
    refine st8 _ ?_
    show Steps p.tables e below (T8.setTop (mkF m 19 #[.val (.ref a1), .val (.int p2), .val (.int p3), .val (.int p4)] [])) _
    exact X8.returnOut hx Bd.returns (hb hby d1_19) hr
  · show Q1 Z a1 p2 p3 p4 u_task_a1 u_resource_a1 u_start_a1 h0 n0 _ T8.heap _
    rw [e8]
    exact ⟨rfl, N8, K8, (((E_a1.wr W6).wr W7).wr W8), ((Fw6.other W7 (Or.inr (slot_ne (Or.inr (hw _ (List.mem_of_getElem? (i := 10) rfl))) (Or.inr (hw _ (List.mem_of_getElem? (i := 12) rfl))) (by decide) (t := .int) (t' := .int) (by decide) (by decide)))).other W8 (Or.inr (slot_ne (Or.inr (hw _ (List.mem_of_getElem? (i := 10) rfl))) (Or.inr (hw _ (List.mem_of_getElem? (i := 14) rfl))) (by decide) (t := .int) (t' := .int) (by decide) (by decide)))), (Fw7.other W8 (Or.inr (slot_ne (Or.inr (hw _ (List.mem_of_getElem? (i := 12) rfl))) (Or.inr (hw _ (List.mem_of_getElem? (i := 14) rfl))) (by decide) (t := .int) (t' := .int) (by decide) (by decide)))), Fw8⟩
theorem d3_0 : decode prog_46_method_4_code 0 = .ok (.aload_n 0, 1) := by decide +kernel
theorem d3_1 : decode prog_46_method_4_code 1 = .ok (.getfield 13, 3) := by decide +kernel
theorem d3_4 : decode prog_46_method_4_code 4 = .ok (.iconst (-1), 1) := by decide +kernel
theorem d3_5 : decode prog_46_method_4_code 5 = .ok (.if_icmp .eq 7, 3) := by decide +kernel
theorem d3_12 : decode prog_46_method_4_code 12 = .ok (.iconst 0, 1) := by decide +kernel
theorem d3_13 : decode prog_46_method_4_code 13 = .ok (.ireturn, 1) := by decide +kernel
theorem pn_3 : plainName "com/example/trailplan/trailplan/model/Assignment" = true := by first | (simp [plainName, overriddenIn]; done) | decide +kernel
theorem ef_3 (m : MethodId) (x0 : Addr) : entryFrame m #[(.ref x0)] 1 = mkF m 0 #[.val (.ref x0)] [] := by first | (simp [entryFrame, mkF, argsToLocals, Value.category]; done) | rfl
def Q3 (r : Int32) (Z : State) (a1 : Addr) (w2 : Int32) (h0 : Heap) (n0 : Nat) (v : Option Value) (h : Heap) (L : List Loc) : Prop := v = some (.int r) ∧ Fr n0 L ∧ h = h0
set_option maxRecDepth 65536 in
set_option maxHeartbeats 40000000 in
theorem rm3_t (l : Launch) (Z : State) (a0 : Array Value) (hw : ∀ d ∈ tables_1, d.before a0 Z = true) (ws : List Jvm.Cond) (a1 : Addr) (w2 : Int32) (h0 : Heap) (n0 : Nat) (Z0 : n0 ≤ h0.size) (F_resource_a1 : Fld Z h0 a1 "com/example/trailplan/trailplan/model/Assignment" "resource" "I" (.int w2)) (hc5 : w2 = (-1 : Int32)) :
    MetFree l (⟨"com/example/trailplan/trailplan/model/Assignment", "hasResource", "()Z"⟩ : MethodName) (head1 (Jvm.Cond.code (⟨"com/example/trailplan/trailplan/model/Assignment", "hasResource", "()Z"⟩ : MethodName) prog_46_method_4_code 1 (some .boolean) :: ws) ({ frames := 0, cells := 0, slots := 0, locals := 0 } : Room)) (fun a U => a = #[(.ref a1)] ∧ Z.Warmed39 U.vm ∧ U.heap = h0) (fun _ _ _ _ _ => True) (fun _ U o U' => ∃ v L, o = .returned v ∧ Q3 (0 : Int32) Z a1 w2 h0 n0 v U'.heap L ∧ FrameEnd U o U' L ({ frames := 0, cells := 0, slots := 0, locals := 0 } : Room).cells ({ frames := 0, cells := 0, slots := 0, locals := 0 } : Room).slots) := by
  refine MetFree.of_bodySF (plainFor_of_name pn_3) hisR ?_
  intro p e s m args below meth c s₁ Bd hml0 hP hK
  obtain ⟨rfl, hZ, hh⟩ := hP
  have hx := Bd.exec
  have hby := Bd.bytes
  have hml : c.maxLocals = 1 := hml0
  have hown : s.vm.findClass "com/example/trailplan/trailplan/model/Assignment" = some m.cls := findClass_of_methodNamed Bd.named
  have hnm := (name_of_methodNamed Bd.named Bd.method).1
  have X0 : Stand p l e ({ frames := 0, cells := 0, slots := 0, locals := 0 } : Room) s m #[(.ref a1)] below meth c s₁ [] 0 0 := Stand.of_body Bd
  have e0 : s₁.heap = h0 := by rw [← hh, Bd.state]; rfl
  have N0 := Fr.nil n0
  have pre0 : ∀ t, Steps p.tables e below (s₁.setTop (mkF m 0 #[.val (.ref a1)] [])) t → Steps p.tables e below (s₁.setTop (entryFrame m #[(.ref a1)] 1)) t := fun t k => castTop (ef_3 m a1) k
  obtain ⟨T3, X3, e3, st3⟩ := getF X0 hx hZ hown (host := "") (Or.inl (hw _ (List.mem_of_getElem? (i := 11) rfl))) Via.refl e0 F_resource_a1 (g := (mkF m 1 #[.val (.ref a1)] [(.ref a1)])) rfl rfl (hb hby d3_1)
  obtain ⟨fs, hr, hrun, hended, hW, hsame⟩ := X3.leave (v := some (.int (0 : Int32))) (fun h => by rw [Bd.returns] at h; cases h)
  refine ⟨_, _, pre0 _ ?_, hrun, hended, _, _, rfl, ?_, ⟨_, rfl⟩, hW, hsame.mono (by decide) (by decide)⟩
  · show Steps p.tables e below (s₁.setTop (mkF m 0 #[.val (.ref a1)] [])) _
    refine XS.aloadN X0.here hx rfl (hb hby d3_0) rfl rfl ?_
    show Steps p.tables e below (s₁.setTop (mkF m 1 #[.val (.ref a1)] [(.ref a1)])) _
    refine st3 _ ?_
    show Steps p.tables e below (T3.setTop (mkF m 4 #[.val (.ref a1)] [(.int w2)])) _
    refine XS.iconst X3.here hx rfl (hb hby d3_4) ?_
    show Steps p.tables e below (T3.setTop (mkF m 5 #[.val (.ref a1)] [(.int (-1 : Int32)), (.int w2)])) _
    refine XS.icmpYes X3.here hx rfl (pc0 := 5) (pc' := 12) rfl (hb hby d3_5) rfl (teq hc5).1 (by decide) (by decide) ?_
    show Steps p.tables e below (T3.setTop (mkF m 12 #[.val (.ref a1)] [])) _
    refine XS.iconst X3.here hx rfl (hb hby d3_12) ?_
    show Steps p.tables e below (T3.setTop (mkF m 13 #[.val (.ref a1)] [(.int (0 : Int32))])) _
    exact retN X3 hx (t := .boolean) Bd.returns (by simp) (hb hby d3_13) hr
  · show Q3 (0 : Int32) Z a1 w2 h0 n0 _ T3.heap _
    rw [e3]
    exact ⟨rfl, N0, rfl⟩
theorem d3_8 : decode prog_46_method_4_code 8 = .ok (.iconst 1, 1) := by decide +kernel
theorem d3_9 : decode prog_46_method_4_code 9 = .ok (.goto 4, 3) := by decide +kernel
set_option maxRecDepth 65536 in
set_option maxHeartbeats 40000000 in
theorem rm3_f (l : Launch) (Z : State) (a0 : Array Value) (hw : ∀ d ∈ tables_1, d.before a0 Z = true) (ws : List Jvm.Cond) (a1 : Addr) (w2 : Int32) (h0 : Heap) (n0 : Nat) (Z0 : n0 ≤ h0.size) (F_resource_a1 : Fld Z h0 a1 "com/example/trailplan/trailplan/model/Assignment" "resource" "I" (.int w2)) (hc5 : ¬ (w2 = (-1 : Int32))) :
    MetFree l (⟨"com/example/trailplan/trailplan/model/Assignment", "hasResource", "()Z"⟩ : MethodName) (head1 (Jvm.Cond.code (⟨"com/example/trailplan/trailplan/model/Assignment", "hasResource", "()Z"⟩ : MethodName) prog_46_method_4_code 1 (some .boolean) :: ws) ({ frames := 0, cells := 0, slots := 0, locals := 0 } : Room)) (fun a U => a = #[(.ref a1)] ∧ Z.Warmed39 U.vm ∧ U.heap = h0) (fun _ _ _ _ _ => True) (fun _ U o U' => ∃ v L, o = .returned v ∧ Q3 (1 : Int32) Z a1 w2 h0 n0 v U'.heap L ∧ FrameEnd U o U' L ({ frames := 0, cells := 0, slots := 0, locals := 0 } : Room).cells ({ frames := 0, cells := 0, slots := 0, locals := 0 } : Room).slots) := by
  refine MetFree.of_bodySF (plainFor_of_name pn_3) hisR ?_
  intro p e s m args below meth c s₁ Bd hml0 hP hK
  obtain ⟨rfl, hZ, hh⟩ := hP
  have hx := Bd.exec
  have hby := Bd.bytes
  have hml : c.maxLocals = 1 := hml0
  have hown : s.vm.findClass "com/example/trailplan/trailplan/model/Assignment" = some m.cls := findClass_of_methodNamed Bd.named
  have hnm := (name_of_methodNamed Bd.named Bd.method).1
  have X0 : Stand p l e ({ frames := 0, cells := 0, slots := 0, locals := 0 } : Room) s m #[(.ref a1)] below meth c s₁ [] 0 0 := Stand.of_body Bd
  have e0 : s₁.heap = h0 := by rw [← hh, Bd.state]; rfl
  have N0 := Fr.nil n0
  have pre0 : ∀ t, Steps p.tables e below (s₁.setTop (mkF m 0 #[.val (.ref a1)] [])) t → Steps p.tables e below (s₁.setTop (entryFrame m #[(.ref a1)] 1)) t := fun t k => castTop (ef_3 m a1) k
  obtain ⟨T3, X3, e3, st3⟩ := getF X0 hx hZ hown (host := "") (Or.inl (hw _ (List.mem_of_getElem? (i := 11) rfl))) Via.refl e0 F_resource_a1 (g := (mkF m 1 #[.val (.ref a1)] [(.ref a1)])) rfl rfl (hb hby d3_1)
  obtain ⟨fs, hr, hrun, hended, hW, hsame⟩ := X3.leave (v := some (.int (1 : Int32))) (fun h => by rw [Bd.returns] at h; cases h)
  refine ⟨_, _, pre0 _ ?_, hrun, hended, _, _, rfl, ?_, ⟨_, rfl⟩, hW, hsame.mono (by decide) (by decide)⟩
  · show Steps p.tables e below (s₁.setTop (mkF m 0 #[.val (.ref a1)] [])) _
    refine XS.aloadN X0.here hx rfl (hb hby d3_0) rfl rfl ?_
    show Steps p.tables e below (s₁.setTop (mkF m 1 #[.val (.ref a1)] [(.ref a1)])) _
    refine st3 _ ?_
    show Steps p.tables e below (T3.setTop (mkF m 4 #[.val (.ref a1)] [(.int w2)])) _
    refine XS.iconst X3.here hx rfl (hb hby d3_4) ?_
    show Steps p.tables e below (T3.setTop (mkF m 5 #[.val (.ref a1)] [(.int (-1 : Int32)), (.int w2)])) _
    refine XS.icmpNo X3.here hx rfl (hb hby d3_5) rfl (feq hc5).1 ?_
    show Steps p.tables e below (T3.setTop (mkF m 8 #[.val (.ref a1)] [])) _
    refine XS.iconst X3.here hx rfl (hb hby d3_8) ?_
    show Steps p.tables e below (T3.setTop (mkF m 9 #[.val (.ref a1)] [(.int (1 : Int32))])) _
    refine XS.goto X3.here hx rfl (pc0 := 9) (pc' := 13) rfl (hb hby d3_9) (by decide) (by decide) ?_
    show Steps p.tables e below (T3.setTop (mkF m 13 #[.val (.ref a1)] [(.int (1 : Int32))])) _
    exact retN X3 hx (t := .boolean) Bd.returns (by simp) (hb hby d3_13) hr
  · show Q3 (1 : Int32) Z a1 w2 h0 n0 _ T3.heap _
    rw [e3]
    exact ⟨rfl, N0, rfl⟩
def own_r3 (w2 : Int32) : Int32 := (if w2 = (-1 : Int32) then (0 : Int32) else (1 : Int32))
theorem rm3 (l : Launch) (Z : State) (a0 : Array Value) (hw : ∀ d ∈ tables_1, d.before a0 Z = true) (ws : List Jvm.Cond) (a1 : Addr) (w2 : Int32) (h0 : Heap) (n0 : Nat) (Z0 : n0 ≤ h0.size) (F_resource_a1 : Fld Z h0 a1 "com/example/trailplan/trailplan/model/Assignment" "resource" "I" (.int w2)) :
    MetFree l (⟨"com/example/trailplan/trailplan/model/Assignment", "hasResource", "()Z"⟩ : MethodName) (head1 (Jvm.Cond.code (⟨"com/example/trailplan/trailplan/model/Assignment", "hasResource", "()Z"⟩ : MethodName) prog_46_method_4_code 1 (some .boolean) :: ws) ({ frames := 0, cells := 0, slots := 0, locals := 0 } : Room)) (fun a U => a = #[(.ref a1)] ∧ Z.Warmed39 U.vm ∧ U.heap = h0) (fun _ _ _ _ _ => True) (fun _ U o U' => ∃ v L, o = .returned v ∧ Q3 (own_r3 w2) Z a1 w2 h0 n0 v U'.heap L ∧ FrameEnd U o U' L ({ frames := 0, cells := 0, slots := 0, locals := 0 } : Room).cells ({ frames := 0, cells := 0, slots := 0, locals := 0 } : Room).slots) := by
  by_cases hc5 : w2 = (-1 : Int32)
  · have e : own_r3 w2 = (0 : Int32) := by rw [own_r3, if_pos hc5]
    rw [e]; exact rm3_t l Z a0 hw ws a1 w2 h0 n0 Z0 F_resource_a1 hc5
  · have e : own_r3 w2 = (1 : Int32) := by rw [own_r3, if_neg hc5]
    rw [e]; exact rm3_f l Z a0 hw ws a1 w2 h0 n0 Z0 F_resource_a1 hc5
theorem d4_0 : decode prog_46_method_3_code 0 = .ok (.aload_n 0, 1) := by decide +kernel
theorem d4_1 : decode prog_46_method_3_code 1 = .ok (.getfield 13, 3) := by decide +kernel
theorem d4_4 : decode prog_46_method_3_code 4 = .ok (.ireturn, 1) := by decide +kernel
theorem pn_4 : plainName "com/example/trailplan/trailplan/model/Assignment" = true := by first | (simp [plainName, overriddenIn]; done) | decide +kernel
theorem ef_4 (m : MethodId) (x0 : Addr) : entryFrame m #[(.ref x0)] 1 = mkF m 0 #[.val (.ref x0)] [] := by first | (simp [entryFrame, mkF, argsToLocals, Value.category]; done) | rfl
def Q4 (Z : State) (a1 : Addr) (w2 : Int32) (h0 : Heap) (n0 : Nat) (v : Option Value) (h : Heap) (L : List Loc) : Prop := v = some (.int w2) ∧ Fr n0 L ∧ h = h0
set_option maxRecDepth 65536 in
set_option maxHeartbeats 40000000 in
theorem rm4 (l : Launch) (Z : State) (a0 : Array Value) (hw : ∀ d ∈ tables_1, d.before a0 Z = true) (ws : List Jvm.Cond) (a1 : Addr) (w2 : Int32) (h0 : Heap) (n0 : Nat) (Z0 : n0 ≤ h0.size) (F_resource_a1 : Fld Z h0 a1 "com/example/trailplan/trailplan/model/Assignment" "resource" "I" (.int w2)) :
    MetFree l (⟨"com/example/trailplan/trailplan/model/Assignment", "resource", "()I"⟩ : MethodName) (head1 (Jvm.Cond.code (⟨"com/example/trailplan/trailplan/model/Assignment", "resource", "()I"⟩ : MethodName) prog_46_method_3_code 1 (some .int) :: ws) ({ frames := 0, cells := 0, slots := 0, locals := 0 } : Room)) (fun a U => a = #[(.ref a1)] ∧ Z.Warmed39 U.vm ∧ U.heap = h0) (fun _ _ _ _ _ => True) (fun _ U o U' => ∃ v L, o = .returned v ∧ Q4 Z a1 w2 h0 n0 v U'.heap L ∧ FrameEnd U o U' L ({ frames := 0, cells := 0, slots := 0, locals := 0 } : Room).cells ({ frames := 0, cells := 0, slots := 0, locals := 0 } : Room).slots) := by
  refine MetFree.of_bodySF (plainFor_of_name pn_4) hisR ?_
  intro p e s m args below meth c s₁ Bd hml0 hP hK
  obtain ⟨rfl, hZ, hh⟩ := hP
  have hx := Bd.exec
  have hby := Bd.bytes
  have hml : c.maxLocals = 1 := hml0
  have hown : s.vm.findClass "com/example/trailplan/trailplan/model/Assignment" = some m.cls := findClass_of_methodNamed Bd.named
  have hnm := (name_of_methodNamed Bd.named Bd.method).1
  have X0 : Stand p l e ({ frames := 0, cells := 0, slots := 0, locals := 0 } : Room) s m #[(.ref a1)] below meth c s₁ [] 0 0 := Stand.of_body Bd
  have e0 : s₁.heap = h0 := by rw [← hh, Bd.state]; rfl
  have N0 := Fr.nil n0
  have pre0 : ∀ t, Steps p.tables e below (s₁.setTop (mkF m 0 #[.val (.ref a1)] [])) t → Steps p.tables e below (s₁.setTop (entryFrame m #[(.ref a1)] 1)) t := fun t k => castTop (ef_4 m a1) k
  obtain ⟨T3, X3, e3, st3⟩ := getF X0 hx hZ hown (host := "") (Or.inl (hw _ (List.mem_of_getElem? (i := 11) rfl))) Via.refl e0 F_resource_a1 (g := (mkF m 1 #[.val (.ref a1)] [(.ref a1)])) rfl rfl (hb hby d4_1)
  obtain ⟨fs, hr, hrun, hended, hW, hsame⟩ := X3.leave (v := some (.int w2)) (fun h => by rw [Bd.returns] at h; cases h)
  refine ⟨_, _, pre0 _ ?_, hrun, hended, _, _, rfl, ?_, ⟨_, rfl⟩, hW, hsame.mono (by decide) (by decide)⟩
  · show Steps p.tables e below (s₁.setTop (mkF m 0 #[.val (.ref a1)] [])) _
    refine XS.aloadN X0.here hx rfl (hb hby d4_0) rfl rfl ?_
    show Steps p.tables e below (s₁.setTop (mkF m 1 #[.val (.ref a1)] [(.ref a1)])) _
    refine st3 _ ?_
    show Steps p.tables e below (T3.setTop (mkF m 4 #[.val (.ref a1)] [(.int w2)])) _
    exact retI X3 hx Bd.returns (hb hby d4_4) hr
  · show Q4 Z a1 w2 h0 n0 _ T3.heap _
    rw [e3]
    exact ⟨rfl, N0, rfl⟩
theorem d5_0 : decode prog_46_method_2_code 0 = .ok (.aload_n 0, 1) := by decide +kernel
theorem d5_1 : decode prog_46_method_2_code 1 = .ok (.getfield 7, 3) := by decide +kernel
theorem d5_4 : decode prog_46_method_2_code 4 = .ok (.ireturn, 1) := by decide +kernel
theorem pn_5 : plainName "com/example/trailplan/trailplan/model/Assignment" = true := by first | (simp [plainName, overriddenIn]; done) | decide +kernel
theorem ef_5 (m : MethodId) (x0 : Addr) : entryFrame m #[(.ref x0)] 1 = mkF m 0 #[.val (.ref x0)] [] := by first | (simp [entryFrame, mkF, argsToLocals, Value.category]; done) | rfl
def Q5 (Z : State) (a1 : Addr) (w2 : Int32) (h0 : Heap) (n0 : Nat) (v : Option Value) (h : Heap) (L : List Loc) : Prop := v = some (.int w2) ∧ Fr n0 L ∧ h = h0
set_option maxRecDepth 65536 in
set_option maxHeartbeats 40000000 in
theorem rm5 (l : Launch) (Z : State) (a0 : Array Value) (hw : ∀ d ∈ tables_1, d.before a0 Z = true) (ws : List Jvm.Cond) (a1 : Addr) (w2 : Int32) (h0 : Heap) (n0 : Nat) (Z0 : n0 ≤ h0.size) (F_task_a1 : Fld Z h0 a1 "com/example/trailplan/trailplan/model/Assignment" "task" "I" (.int w2)) :
    MetFree l (⟨"com/example/trailplan/trailplan/model/Assignment", "task", "()I"⟩ : MethodName) (head1 (Jvm.Cond.code (⟨"com/example/trailplan/trailplan/model/Assignment", "task", "()I"⟩ : MethodName) prog_46_method_2_code 1 (some .int) :: ws) ({ frames := 0, cells := 0, slots := 0, locals := 0 } : Room)) (fun a U => a = #[(.ref a1)] ∧ Z.Warmed39 U.vm ∧ U.heap = h0) (fun _ _ _ _ _ => True) (fun _ U o U' => ∃ v L, o = .returned v ∧ Q5 Z a1 w2 h0 n0 v U'.heap L ∧ FrameEnd U o U' L ({ frames := 0, cells := 0, slots := 0, locals := 0 } : Room).cells ({ frames := 0, cells := 0, slots := 0, locals := 0 } : Room).slots) := by
  refine MetFree.of_bodySF (plainFor_of_name pn_5) hisR ?_
  intro p e s m args below meth c s₁ Bd hml0 hP hK
  obtain ⟨rfl, hZ, hh⟩ := hP
  have hx := Bd.exec
  have hby := Bd.bytes
  have hml : c.maxLocals = 1 := hml0
  have hown : s.vm.findClass "com/example/trailplan/trailplan/model/Assignment" = some m.cls := findClass_of_methodNamed Bd.named
  have hnm := (name_of_methodNamed Bd.named Bd.method).1
  have X0 : Stand p l e ({ frames := 0, cells := 0, slots := 0, locals := 0 } : Room) s m #[(.ref a1)] below meth c s₁ [] 0 0 := Stand.of_body Bd
  have e0 : s₁.heap = h0 := by rw [← hh, Bd.state]; rfl
  have N0 := Fr.nil n0
  have pre0 : ∀ t, Steps p.tables e below (s₁.setTop (mkF m 0 #[.val (.ref a1)] [])) t → Steps p.tables e below (s₁.setTop (entryFrame m #[(.ref a1)] 1)) t := fun t k => castTop (ef_5 m a1) k
  obtain ⟨T3, X3, e3, st3⟩ := getF X0 hx hZ hown (host := "") (Or.inl (hw _ (List.mem_of_getElem? (i := 9) rfl))) Via.refl e0 F_task_a1 (g := (mkF m 1 #[.val (.ref a1)] [(.ref a1)])) rfl rfl (hb hby d5_1)
  obtain ⟨fs, hr, hrun, hended, hW, hsame⟩ := X3.leave (v := some (.int w2)) (fun h => by rw [Bd.returns] at h; cases h)
  refine ⟨_, _, pre0 _ ?_, hrun, hended, _, _, rfl, ?_, ⟨_, rfl⟩, hW, hsame.mono (by decide) (by decide)⟩
  · show Steps p.tables e below (s₁.setTop (mkF m 0 #[.val (.ref a1)] [])) _
    refine XS.aloadN X0.here hx rfl (hb hby d5_0) rfl rfl ?_
    show Steps p.tables e below (s₁.setTop (mkF m 1 #[.val (.ref a1)] [(.ref a1)])) _
    refine st3 _ ?_
    show Steps p.tables e below (T3.setTop (mkF m 4 #[.val (.ref a1)] [(.int w2)])) _
    exact retI X3 hx Bd.returns (hb hby d5_4) hr
  · show Q5 Z a1 w2 h0 n0 _ T3.heap _
    rw [e3]
    exact ⟨rfl, N0, rfl⟩
theorem d6_0 : decode prog_46_method_5_code 0 = .ok (.aload_n 0, 1) := by decide +kernel
theorem d6_1 : decode prog_46_method_5_code 1 = .ok (.getfield 16, 3) := by decide +kernel
theorem d6_4 : decode prog_46_method_5_code 4 = .ok (.ireturn, 1) := by decide +kernel
theorem pn_6 : plainName "com/example/trailplan/trailplan/model/Assignment" = true := by first | (simp [plainName, overriddenIn]; done) | decide +kernel
theorem ef_6 (m : MethodId) (x0 : Addr) : entryFrame m #[(.ref x0)] 1 = mkF m 0 #[.val (.ref x0)] [] := by first | (simp [entryFrame, mkF, argsToLocals, Value.category]; done) | rfl
def Q6 (Z : State) (a1 : Addr) (w2 : Int32) (h0 : Heap) (n0 : Nat) (v : Option Value) (h : Heap) (L : List Loc) : Prop := v = some (.int w2) ∧ Fr n0 L ∧ h = h0
set_option maxRecDepth 65536 in
set_option maxHeartbeats 40000000 in
theorem rm6 (l : Launch) (Z : State) (a0 : Array Value) (hw : ∀ d ∈ tables_1, d.before a0 Z = true) (ws : List Jvm.Cond) (a1 : Addr) (w2 : Int32) (h0 : Heap) (n0 : Nat) (Z0 : n0 ≤ h0.size) (F_start_a1 : Fld Z h0 a1 "com/example/trailplan/trailplan/model/Assignment" "start" "I" (.int w2)) :
    MetFree l (⟨"com/example/trailplan/trailplan/model/Assignment", "start", "()I"⟩ : MethodName) (head1 (Jvm.Cond.code (⟨"com/example/trailplan/trailplan/model/Assignment", "start", "()I"⟩ : MethodName) prog_46_method_5_code 1 (some .int) :: ws) ({ frames := 0, cells := 0, slots := 0, locals := 0 } : Room)) (fun a U => a = #[(.ref a1)] ∧ Z.Warmed39 U.vm ∧ U.heap = h0) (fun _ _ _ _ _ => True) (fun _ U o U' => ∃ v L, o = .returned v ∧ Q6 Z a1 w2 h0 n0 v U'.heap L ∧ FrameEnd U o U' L ({ frames := 0, cells := 0, slots := 0, locals := 0 } : Room).cells ({ frames := 0, cells := 0, slots := 0, locals := 0 } : Room).slots) := by
  refine MetFree.of_bodySF (plainFor_of_name pn_6) hisR ?_
  intro p e s m args below meth c s₁ Bd hml0 hP hK
  obtain ⟨rfl, hZ, hh⟩ := hP
  have hx := Bd.exec
  have hby := Bd.bytes
  have hml : c.maxLocals = 1 := hml0
  have hown : s.vm.findClass "com/example/trailplan/trailplan/model/Assignment" = some m.cls := findClass_of_methodNamed Bd.named
  have hnm := (name_of_methodNamed Bd.named Bd.method).1
  have X0 : Stand p l e ({ frames := 0, cells := 0, slots := 0, locals := 0 } : Room) s m #[(.ref a1)] below meth c s₁ [] 0 0 := Stand.of_body Bd
  have e0 : s₁.heap = h0 := by rw [← hh, Bd.state]; rfl
  have N0 := Fr.nil n0
  have pre0 : ∀ t, Steps p.tables e below (s₁.setTop (mkF m 0 #[.val (.ref a1)] [])) t → Steps p.tables e below (s₁.setTop (entryFrame m #[(.ref a1)] 1)) t := fun t k => castTop (ef_6 m a1) k
  obtain ⟨T3, X3, e3, st3⟩ := getF X0 hx hZ hown (host := "") (Or.inl (hw _ (List.mem_of_getElem? (i := 13) rfl))) Via.refl e0 F_start_a1 (g := (mkF m 1 #[.val (.ref a1)] [(.ref a1)])) rfl rfl (hb hby d6_1)
  obtain ⟨fs, hr, hrun, hended, hW, hsame⟩ := X3.leave (v := some (.int w2)) (fun h => by rw [Bd.returns] at h; cases h)
  refine ⟨_, _, pre0 _ ?_, hrun, hended, _, _, rfl, ?_, ⟨_, rfl⟩, hW, hsame.mono (by decide) (by decide)⟩
  · show Steps p.tables e below (s₁.setTop (mkF m 0 #[.val (.ref a1)] [])) _
    refine XS.aloadN X0.here hx rfl (hb hby d6_0) rfl rfl ?_
    show Steps p.tables e below (s₁.setTop (mkF m 1 #[.val (.ref a1)] [(.ref a1)])) _
    refine st3 _ ?_
    show Steps p.tables e below (T3.setTop (mkF m 4 #[.val (.ref a1)] [(.int w2)])) _
    exact retI X3 hx Bd.returns (hb hby d6_4) hr
  · show Q6 Z a1 w2 h0 n0 _ T3.heap _
    rw [e3]
    exact ⟨rfl, N0, rfl⟩
theorem pn_0 : plainName "com/example/trailplan/trailplan/model/AssignmentHasResourcePinLaw" = true := by first | (simp [plainName, overriddenIn]; done) | decide +kernel
theorem pdx_0 : parseMethodDescriptor "(III)V" = some ⟨[.int, .int, .int], none⟩ := by decide +kernel
theorem pdx_1 : parseMethodDescriptor "()Z" = some ⟨[], some .boolean⟩ := by decide +kernel
theorem pdx_2 : parseMethodDescriptor "()I" = some ⟨[], some .int⟩ := by decide +kernel
theorem ef_0 (m : MethodId) (x0 : Int32) (x1 : Int32) (x2 : Int32) (x3 : Int32) : entryFrame m #[(.int x0), (.int x1), (.int x2), (.int x3)] maxLocals = mkF m 0 #[.val (.int x0), .val (.int x1), .val (.int x2), .val (.int x3), .unset, .unset, .unset, .unset, .unset] [] := by first | (simp [entryFrame, mkF, argsToLocals, Value.category, maxLocals]; done) | rfl
def Q0 (Z : State) (p1 : Int32) (p2 : Int32) (p3 : Int32) (p4 : Int32) (h0 : Heap) (n0 : Nat) (v : Option Value) (h : Heap) (L : List Loc) : Prop := v = some (.int (1 : Int32)) ∧ Fr n0 L
set_option maxRecDepth 65536 in
set_option maxHeartbeats 40000000 in
theorem rm0_a (l : Launch) (Z : State) (a0 : Array Value) (hw : ∀ d ∈ tables_1, d.before a0 Z = true) (ws : List Jvm.Cond) (p1 : Int32) (p2 : Int32) (p3 : Int32) (p4 : Int32) (h0 : Heap) (n0 : Nat) (Z0 : n0 ≤ h0.size) (hc8 : (p4 &&& (3 : Int32)) = (1 : Int32)) :
    MetFree l x (head1 (Jvm.Cond.code x code maxLocals ret :: ws) room_1) (fun a U => a = #[(.int p1), (.int p2), (.int p3), (.int p4)] ∧ Z.Warmed39 U.vm ∧ U.heap = h0) (fun _ _ _ _ _ => True) (fun _ U o U' => ∃ v L, o = .returned v ∧ Q0 Z p1 p2 p3 p4 h0 n0 v U'.heap L ∧ FrameEnd U o U' L room_1.cells room_1.slots) := by
  refine MetFree.of_bodySF (plainFor_of_name pn_0) hisR ?_
  intro p e s m args below meth c s₁ Bd hml0 hP hK
  obtain ⟨rfl, hZ, hh⟩ := hP
  have hx := Bd.exec
  have hby := Bd.bytes
  have hml : c.maxLocals = 9 := hml0
  have hown : s.vm.findClass "com/example/trailplan/trailplan/model/AssignmentHasResourcePinLaw" = some m.cls := findClass_of_methodNamed Bd.named
  have hnm := (name_of_methodNamed Bd.named Bd.method).1
  have X0 : Stand p l e room_1 s m #[(.int p1), (.int p2), (.int p3), (.int p4)] below meth c s₁ [] 0 0 := Stand.of_body Bd
  have e0 : s₁.heap = h0 := by rw [← hh, Bd.state]; rfl
  have N0 := Fr.nil n0
  have pre0 : ∀ t, Steps p.tables e below (s₁.setTop (mkF m 0 #[.val (.int p1), .val (.int p2), .val (.int p3), .val (.int p4), .unset, .unset, .unset, .unset, .unset] [])) t → Steps p.tables e below (s₁.setTop (entryFrame m #[(.int p1), (.int p2), (.int p3), (.int p4)] maxLocals)) t := fun t k => castTop (ef_0 m p1 p2 p3 p4) k
  obtain ⟨T5, h5, X5, e5, E5, A5, D5, -, st5⟩ := newO X0 hx hZ hown (hw _ (List.mem_of_getElem? (i := 0) rfl)) (hw _ (List.mem_of_getElem? (i := 1) rfl)) (hw _ (List.mem_of_getElem? (i := 2) rfl)) e0 (g := (mkF m 45 #[.val (.int p1), .val (.int p2), .val (.int p3), .val (.int p4), .val (.int (p4 &&& (3 : Int32))), .val (.int (-1 : Int32)), .unset, .unset, .unset] [])) rfl (hb hby at_45) (by decide) (by decide)
  obtain ⟨b5, g5⟩ : ∃ z, z = h0.size := ⟨_, rfl⟩
  rw [← g5] at A5 D5 st5
  have F_task_b5 : Fld Z h5 b5 "com/example/trailplan/trailplan/model/Assignment" "task" "I" (.int (0 : Int32)) := D5 (Or.inr (hw _ (List.mem_of_getElem? (i := 10) rfl))) (ty := .int) (by decide)
  have F_resource_b5 : Fld Z h5 b5 "com/example/trailplan/trailplan/model/Assignment" "resource" "I" (.int (0 : Int32)) := D5 (Or.inr (hw _ (List.mem_of_getElem? (i := 12) rfl))) (ty := .int) (by decide)
  have F_start_b5 : Fld Z h5 b5 "com/example/trailplan/trailplan/model/Assignment" "start" "I" (.int (0 : Int32)) := D5 (Or.inr (hw _ (List.mem_of_getElem? (i := 14) rfl))) (ty := .int) (by decide)
  have E_b5 := A5
  have g_b5 : n0 ≤ b5 := Nat.le_trans Z0 (Nat.le_of_eq g5.symm)
  have sz_b5 : h0.size ≤ b5 := (Nat.le_trans (Keep.refl h0 []).1 (Nat.le_of_eq g5.symm))
  have K5 : Keep h0 h5 [] := (Keep.refl h0 []).ext E5
  obtain ⟨_, _, ⟨T6, L6, k6, n6⟩, -, X6, ⟨Lc6, hQ6, l6, y6, z6⟩, st6⟩ := X5.specialBack hx (y := (⟨"com/example/trailplan/trailplan/model/Assignment", "<init>", "(III)V"⟩ : MethodName)) rfl hown (mvT hZ (hw _ (List.mem_of_getElem? (i := 3) rfl))) (mvT hZ (hw _ (List.mem_of_getElem? (i := 4) rfl))) (mvT hZ (hw _ (List.mem_of_getElem? (i := 5) rfl))) (by decide) (backOf (W := 1) (rm1 l Z a0 hw [] b5 p1 (-1 : Int32) p3 (.int (0 : Int32)) (.int (0 : Int32)) (.int (0 : Int32)) h5 n0 (Nat.le_trans Z0 K5.1) E_b5 F_task_b5 g_b5 F_resource_b5 F_start_b5) hZ (hw _ (List.mem_of_getElem? (i := 5) rfl)) (hw _ (List.mem_of_getElem? (i := 2) rfl)) (by decide) (by decide)) (g := (mkF m 53 #[.val (.int p1), .val (.int p2), .val (.int p3), .val (.int p4), .val (.int (p4 &&& (3 : Int32))), .val (.int (-1 : Int32)), .unset, .unset, .unset] [(.int p3), (.int (-1 : Int32)), (.int p1), (.ref b5), (.ref b5)])) rfl (by rw [hml]; rfl) (Steps.refl _) (a := b5) (argsL := [(.int p1), (.int (-1 : Int32)), (.int p3)]) (rest := [(.ref b5)]) (lenOf pdx_0 rfl) rfl (by show 2 * 0 + _ ≤ _; exact Nat.le_of_eq rfl) (hb hby at_53) (fun _ _ => ⟨rfl, e5, (by decide : 1 + 0 ≤ _), (by decide : 3 + 0 ≤ _)⟩)
  dsimp only [Pt.U, Pt.locs, Pt.cells, Pt.slots] at X6 l6 y6 z6 st6 hQ6
  subst l6 y6 z6
  obtain ⟨rfl, N6q, K6, E6, F6t, F6r, F6s⟩ := hQ6
  have N6 := Fr.app N0 N6q
  have Z6 : n0 ≤ T6.heap.size := Nat.le_trans Z0 (Nat.le_trans K5.1 K6.1)
  obtain ⟨cq7, kq7, q7a, q7b, q7c⟩ := isOf hZ rfl E6
  obtain ⟨_, _, ⟨T7, L7, k7, n7⟩, -, X7, ⟨Lc7, hQ7, l7, y7, z7⟩, st7⟩ := X6.virtualBack hx (y := (⟨"com/example/trailplan/trailplan/model/Assignment", "hasResource", "()Z"⟩ : MethodName)) (z := (⟨"com/example/trailplan/trailplan/model/Assignment", "hasResource", "()Z"⟩ : MethodName)) hown (mvT hZ (hw _ (List.mem_of_getElem? (i := 15) rfl))) (mvT hZ (hw _ (List.mem_of_getElem? (i := 16) rfl))) (notFace_of_selects (args := #[]) (mvT hZ (hw _ (List.mem_of_getElem? (i := 18) rfl)))) (mvT hZ (hw _ (List.mem_of_getElem? (i := 18) rfl))) (mvT hZ (hw _ (List.mem_of_getElem? (i := 17) rfl))) (by decide) (backOf (W := 0) (rm3 l Z a0 hw [] b5 (-1 : Int32) T6.heap n0 Z6 F6r) hZ (hw _ (List.mem_of_getElem? (i := 19) rfl)) (hw _ (List.mem_of_getElem? (i := 2) rfl)) (by decide) (by decide)) q7a q7c (g := (mkF m 60 #[.val (.int p1), .val (.int p2), .val (.int p3), .val (.int p4), .val (.int (p4 &&& (3 : Int32))), .val (.int (-1 : Int32)), .val (.ref b5), .unset, .unset] [(.ref b5)])) rfl (by rw [hml]; rfl) (Steps.refl _) (argsL := []) (rest := []) (lenOf pdx_1 rfl) rfl (by show 2 * 0 + _ ≤ _; exact Nat.le_of_eq rfl) (hb hby at_60) (fun _ _ => ⟨rfl, rfl, (by decide : 1 + 0 ≤ _), (by decide : 3 + 0 ≤ _)⟩)
  dsimp only [Pt.U, Pt.locs, Pt.cells, Pt.slots] at X7 l7 y7 z7 st7 hQ7
  subst l7 y7 z7
  obtain ⟨rfl, N7q, e7⟩ := hQ7
  have N7 := Fr.app N6 N7q
  have Z7 : n0 ≤ T7.heap.size := by rw [e7]; exact Z6
  obtain ⟨cq8, kq8, q8a, q8b, q8c⟩ := isOf hZ rfl (show Exa Z T7.heap b5 _ by rw [e7]; exact E6)
  obtain ⟨_, _, ⟨T8, L8, k8, n8⟩, -, X8, ⟨Lc8, hQ8, l8, y8, z8⟩, st8⟩ := X7.virtualBack hx (y := (⟨"com/example/trailplan/trailplan/model/Assignment", "resource", "()I"⟩ : MethodName)) (z := (⟨"com/example/trailplan/trailplan/model/Assignment", "resource", "()I"⟩ : MethodName)) hown (mvT hZ (hw _ (List.mem_of_getElem? (i := 20) rfl))) (mvT hZ (hw _ (List.mem_of_getElem? (i := 21) rfl))) (notFace_of_selects (args := #[]) (mvT hZ (hw _ (List.mem_of_getElem? (i := 23) rfl)))) (mvT hZ (hw _ (List.mem_of_getElem? (i := 23) rfl))) (mvT hZ (hw _ (List.mem_of_getElem? (i := 22) rfl))) (by decide) (backOf (W := 0) (rm4 l Z a0 hw [] b5 (-1 : Int32) T7.heap n0 Z7 (by rw [e7]; exact F6r)) hZ (hw _ (List.mem_of_getElem? (i := 24) rfl)) (hw _ (List.mem_of_getElem? (i := 2) rfl)) (by decide) (by decide)) q8a q8c (g := (mkF m 91 #[.val (.int p1), .val (.int p2), .val (.int p3), .val (.int p4), .val (.int (p4 &&& (3 : Int32))), .val (.int (-1 : Int32)), .val (.ref b5), .val (.int (own_r3 (-1 : Int32))), .val (.int (0 : Int32))] [(.ref b5)])) rfl (by rw [hml]; rfl) (Steps.refl _) (argsL := []) (rest := []) (lenOf pdx_2 rfl) rfl (by show 2 * 0 + _ ≤ _; exact Nat.le_of_eq rfl) (hb hby at_91) (fun _ _ => ⟨rfl, rfl, (by decide : 1 + 0 ≤ _), (by decide : 3 + 0 ≤ _)⟩)
  dsimp only [Pt.U, Pt.locs, Pt.cells, Pt.slots] at X8 l8 y8 z8 st8 hQ8
  subst l8 y8 z8
  obtain ⟨rfl, N8q, e8⟩ := hQ8
  have N8 := Fr.app N7 N8q
  have Z8 : n0 ≤ T8.heap.size := by rw [e8]; exact Z7
  obtain ⟨cq9, kq9, q9a, q9b, q9c⟩ := isOf hZ rfl (show Exa Z T8.heap b5 _ by rw [e8, e7]; exact E6)
  obtain ⟨_, _, ⟨T9, L9, k9, n9⟩, -, X9, ⟨Lc9, hQ9, l9, y9, z9⟩, st9⟩ := X8.virtualBack hx (y := (⟨"com/example/trailplan/trailplan/model/Assignment", "task", "()I"⟩ : MethodName)) (z := (⟨"com/example/trailplan/trailplan/model/Assignment", "task", "()I"⟩ : MethodName)) hown (mvT hZ (hw _ (List.mem_of_getElem? (i := 25) rfl))) (mvT hZ (hw _ (List.mem_of_getElem? (i := 26) rfl))) (notFace_of_selects (args := #[]) (mvT hZ (hw _ (List.mem_of_getElem? (i := 28) rfl)))) (mvT hZ (hw _ (List.mem_of_getElem? (i := 28) rfl))) (mvT hZ (hw _ (List.mem_of_getElem? (i := 27) rfl))) (by decide) (backOf (W := 0) (rm5 l Z a0 hw [] b5 p1 T8.heap n0 Z8 (by rw [e8, e7]; exact F6t)) hZ (hw _ (List.mem_of_getElem? (i := 29) rfl)) (hw _ (List.mem_of_getElem? (i := 2) rfl)) (by decide) (by decide)) q9a q9c (g := (mkF m 103 #[.val (.int p1), .val (.int p2), .val (.int p3), .val (.int p4), .val (.int (p4 &&& (3 : Int32))), .val (.int (-1 : Int32)), .val (.ref b5), .val (.int (own_r3 (-1 : Int32))), .val (.int (0 : Int32))] [(.ref b5)])) rfl (by rw [hml]; rfl) (Steps.refl _) (argsL := []) (rest := []) (lenOf pdx_2 rfl) rfl (by show 2 * 0 + _ ≤ _; exact Nat.le_of_eq rfl) (hb hby at_103) (fun _ _ => ⟨rfl, rfl, (by decide : 1 + 0 ≤ _), (by decide : 3 + 0 ≤ _)⟩)
  dsimp only [Pt.U, Pt.locs, Pt.cells, Pt.slots] at X9 l9 y9 z9 st9 hQ9
  subst l9 y9 z9
  obtain ⟨rfl, N9q, e9⟩ := hQ9
  have N9 := Fr.app N8 N9q
  have Z9 : n0 ≤ T9.heap.size := by rw [e9]; exact Z8
  obtain ⟨cq10, kq10, q10a, q10b, q10c⟩ := isOf hZ rfl (show Exa Z T9.heap b5 _ by rw [e9, e8, e7]; exact E6)
  obtain ⟨_, _, ⟨T10, L10, k10, n10⟩, -, X10, ⟨Lc10, hQ10, l10, y10, z10⟩, st10⟩ := X9.virtualBack hx (y := (⟨"com/example/trailplan/trailplan/model/Assignment", "start", "()I"⟩ : MethodName)) (z := (⟨"com/example/trailplan/trailplan/model/Assignment", "start", "()I"⟩ : MethodName)) hown (mvT hZ (hw _ (List.mem_of_getElem? (i := 30) rfl))) (mvT hZ (hw _ (List.mem_of_getElem? (i := 31) rfl))) (notFace_of_selects (args := #[]) (mvT hZ (hw _ (List.mem_of_getElem? (i := 33) rfl)))) (mvT hZ (hw _ (List.mem_of_getElem? (i := 33) rfl))) (mvT hZ (hw _ (List.mem_of_getElem? (i := 32) rfl))) (by decide) (backOf (W := 0) (rm6 l Z a0 hw [] b5 p3 T9.heap n0 Z9 (by rw [e9, e8, e7]; exact F6s)) hZ (hw _ (List.mem_of_getElem? (i := 34) rfl)) (hw _ (List.mem_of_getElem? (i := 2) rfl)) (by decide) (by decide)) q10a q10c (g := (mkF m 114 #[.val (.int p1), .val (.int p2), .val (.int p3), .val (.int p4), .val (.int (p4 &&& (3 : Int32))), .val (.int (-1 : Int32)), .val (.ref b5), .val (.int (own_r3 (-1 : Int32))), .val (.int (0 : Int32))] [(.ref b5)])) rfl (by rw [hml]; rfl) (Steps.refl _) (argsL := []) (rest := []) (lenOf pdx_2 rfl) rfl (by show 2 * 0 + _ ≤ _; exact Nat.le_of_eq rfl) (hb hby at_114) (fun _ _ => ⟨rfl, rfl, (by decide : 1 + 0 ≤ _), (by decide : 3 + 0 ≤ _)⟩)
  dsimp only [Pt.U, Pt.locs, Pt.cells, Pt.slots] at X10 l10 y10 z10 st10 hQ10
  subst l10 y10 z10
  obtain ⟨rfl, N10q, e10⟩ := hQ10
  have N10 := Fr.app N9 N10q
  obtain ⟨fs, hr, hrun, hended, hW, hsame⟩ := X10.leave (v := some (.int (1 : Int32))) (fun h => by rw [Bd.returns] at h; cases h)
  refine ⟨_, _, pre0 _ ?_, hrun, hended, _, _, rfl, ?_, ⟨_, rfl⟩, hW, hsame.mono (by decide) (by decide)⟩
  · show Steps p.tables e below (s₁.setTop (mkF m 0 #[.val (.int p1), .val (.int p2), .val (.int p3), .val (.int p4), .unset, .unset, .unset, .unset, .unset] [])) _
    refine XS.iloadN X0.here hx rfl (hb hby at_0) rfl ?_
    show Steps p.tables e below (s₁.setTop (mkF m 1 #[.val (.int p1), .val (.int p2), .val (.int p3), .val (.int p4), .unset, .unset, .unset, .unset, .unset] [(.int p4)])) _
    refine XS.iconst X0.here hx rfl (hb hby at_1) ?_
    show Steps p.tables e below (s₁.setTop (mkF m 2 #[.val (.int p1), .val (.int p2), .val (.int p3), .val (.int p4), .unset, .unset, .unset, .unset, .unset] [(.int (3 : Int32)), (.int p4)])) _
    refine XS.iand X0.here hx rfl (hb hby at_2) rfl ?_
    show Steps p.tables e below (s₁.setTop (mkF m 3 #[.val (.int p1), .val (.int p2), .val (.int p3), .val (.int p4), .unset, .unset, .unset, .unset, .unset] [(.int (p4 &&& (3 : Int32)))])) _
    refine XS.istore X0.here hx rfl (hb hby at_3) rfl (l' := #[.val (.int p1), .val (.int p2), .val (.int p3), .val (.int p4), .val (.int (p4 &&& (3 : Int32))), .unset, .unset, .unset, .unset]) rfl ?_
    show Steps p.tables e below (s₁.setTop (mkF m 5 #[.val (.int p1), .val (.int p2), .val (.int p3), .val (.int p4), .val (.int (p4 &&& (3 : Int32))), .unset, .unset, .unset, .unset] [])) _
    refine XS.iload X0.here hx rfl (hb hby at_5) rfl ?_
    show Steps p.tables e below (s₁.setTop (mkF m 7 #[.val (.int p1), .val (.int p2), .val (.int p3), .val (.int p4), .val (.int (p4 &&& (3 : Int32))), .unset, .unset, .unset, .unset] [(.int (p4 &&& (3 : Int32)))])) _
    refine XS.iconst X0.here hx rfl (hb hby at_7) ?_
    show Steps p.tables e below (s₁.setTop (mkF m 8 #[.val (.int p1), .val (.int p2), .val (.int p3), .val (.int p4), .val (.int (p4 &&& (3 : Int32))), .unset, .unset, .unset, .unset] [(.int (1 : Int32)), (.int (p4 &&& (3 : Int32)))])) _
    refine XS.icmpNo X0.here hx rfl (hb hby at_8) rfl (teq hc8).2 ?_
    show Steps p.tables e below (s₁.setTop (mkF m 11 #[.val (.int p1), .val (.int p2), .val (.int p3), .val (.int p4), .val (.int (p4 &&& (3 : Int32))), .unset, .unset, .unset, .unset] [])) _
    refine XS.iconst X0.here hx rfl (hb hby at_11) ?_
    show Steps p.tables e below (s₁.setTop (mkF m 12 #[.val (.int p1), .val (.int p2), .val (.int p3), .val (.int p4), .val (.int (p4 &&& (3 : Int32))), .unset, .unset, .unset, .unset] [(.int (-1 : Int32))])) _
    refine XS.istore X0.here hx rfl (hb hby at_12) rfl (l' := #[.val (.int p1), .val (.int p2), .val (.int p3), .val (.int p4), .val (.int (p4 &&& (3 : Int32))), .val (.int (-1 : Int32)), .unset, .unset, .unset]) rfl ?_
    show Steps p.tables e below (s₁.setTop (mkF m 14 #[.val (.int p1), .val (.int p2), .val (.int p3), .val (.int p4), .val (.int (p4 &&& (3 : Int32))), .val (.int (-1 : Int32)), .unset, .unset, .unset] [])) _
    refine XS.goto X0.here hx rfl (pc0 := 14) (pc' := 45) rfl (hb hby at_14) (by decide) (by decide) ?_
    show Steps p.tables e below (s₁.setTop (mkF m 45 #[.val (.int p1), .val (.int p2), .val (.int p3), .val (.int p4), .val (.int (p4 &&& (3 : Int32))), .val (.int (-1 : Int32)), .unset, .unset, .unset] [])) _
    refine st5 _ ?_
    show Steps p.tables e below (T5.setTop (mkF m 48 #[.val (.int p1), .val (.int p2), .val (.int p3), .val (.int p4), .val (.int (p4 &&& (3 : Int32))), .val (.int (-1 : Int32)), .unset, .unset, .unset] [(.ref b5)])) _
    refine XS.dup X5.here hx rfl (hb hby at_48) rfl rfl ?_
    show Steps p.tables e below (T5.setTop (mkF m 49 #[.val (.int p1), .val (.int p2), .val (.int p3), .val (.int p4), .val (.int (p4 &&& (3 : Int32))), .val (.int (-1 : Int32)), .unset, .unset, .unset] [(.ref b5), (.ref b5)])) _
    refine XS.iloadN X5.here hx rfl (hb hby at_49) rfl ?_
    show Steps p.tables e below (T5.setTop (mkF m 50 #[.val (.int p1), .val (.int p2), .val (.int p3), .val (.int p4), .val (.int (p4 &&& (3 : Int32))), .val (.int (-1 : Int32)), .unset, .unset, .unset] [(.int p1), (.ref b5), (.ref b5)])) _
    refine XS.iload X5.here hx rfl (hb hby at_50) rfl ?_
    show Steps p.tables e below (T5.setTop (mkF m 52 #[.val (.int p1), .val (.int p2), .val (.int p3), .val (.int p4), .val (.int (p4 &&& (3 : Int32))), .val (.int (-1 : Int32)), .unset, .unset, .unset] [(.int (-1 : Int32)), (.int p1), (.ref b5), (.ref b5)])) _
    refine XS.iloadN X5.here hx rfl (hb hby at_52) rfl ?_
    show Steps p.tables e below (T5.setTop (mkF m 53 #[.val (.int p1), .val (.int p2), .val (.int p3), .val (.int p4), .val (.int (p4 &&& (3 : Int32))), .val (.int (-1 : Int32)), .unset, .unset, .unset] [(.int p3), (.int (-1 : Int32)), (.int p1), (.ref b5), (.ref b5)])) _
    refine st6.trans ?_
    show Steps p.tables e below (T6.setTop (mkF m 56 #[.val (.int p1), .val (.int p2), .val (.int p3), .val (.int p4), .val (.int (p4 &&& (3 : Int32))), .val (.int (-1 : Int32)), .unset, .unset, .unset] [(.ref b5)])) _
    refine XS.astore X6.here hx rfl (hb hby at_56) rfl rfl (l' := #[.val (.int p1), .val (.int p2), .val (.int p3), .val (.int p4), .val (.int (p4 &&& (3 : Int32))), .val (.int (-1 : Int32)), .val (.ref b5), .unset, .unset]) rfl ?_
    show Steps p.tables e below (T6.setTop (mkF m 58 #[.val (.int p1), .val (.int p2), .val (.int p3), .val (.int p4), .val (.int (p4 &&& (3 : Int32))), .val (.int (-1 : Int32)), .val (.ref b5), .unset, .unset] [])) _
    refine XS.aload X6.here hx rfl (hb hby at_58) rfl rfl ?_
    show Steps p.tables e below (T6.setTop (mkF m 60 #[.val (.int p1), .val (.int p2), .val (.int p3), .val (.int p4), .val (.int (p4 &&& (3 : Int32))), .val (.int (-1 : Int32)), .val (.ref b5), .unset, .unset] [(.ref b5)])) _
    refine st7.trans ?_
    show Steps p.tables e below (T7.setTop (mkF m 63 #[.val (.int p1), .val (.int p2), .val (.int p3), .val (.int p4), .val (.int (p4 &&& (3 : Int32))), .val (.int (-1 : Int32)), .val (.ref b5), .unset, .unset] [(.int (own_r3 (-1 : Int32)))])) _
    refine XS.istore X7.here hx rfl (hb hby at_63) rfl (l' := #[.val (.int p1), .val (.int p2), .val (.int p3), .val (.int p4), .val (.int (p4 &&& (3 : Int32))), .val (.int (-1 : Int32)), .val (.ref b5), .val (.int (own_r3 (-1 : Int32))), .unset]) rfl ?_
    show Steps p.tables e below (T7.setTop (mkF m 65 #[.val (.int p1), .val (.int p2), .val (.int p3), .val (.int p4), .val (.int (p4 &&& (3 : Int32))), .val (.int (-1 : Int32)), .val (.ref b5), .val (.int (own_r3 (-1 : Int32))), .unset] [])) _
    refine XS.iload X7.here hx rfl (hb hby at_65) rfl ?_
    show Steps p.tables e below (T7.setTop (mkF m 67 #[.val (.int p1), .val (.int p2), .val (.int p3), .val (.int p4), .val (.int (p4 &&& (3 : Int32))), .val (.int (-1 : Int32)), .val (.ref b5), .val (.int (own_r3 (-1 : Int32))), .unset] [(.int (-1 : Int32))])) _
    refine XS.iconst X7.here hx rfl (hb hby at_67) ?_
    show Steps p.tables e below (T7.setTop (mkF m 68 #[.val (.int p1), .val (.int p2), .val (.int p3), .val (.int p4), .val (.int (p4 &&& (3 : Int32))), .val (.int (-1 : Int32)), .val (.ref b5), .val (.int (own_r3 (-1 : Int32))), .unset] [(.int (-1 : Int32)), (.int (-1 : Int32))])) _
    refine XS.icmpNo X7.here hx rfl (hb hby at_68) rfl (teq (rfl : (-1 : Int32) = (-1 : Int32))).2 ?_
    show Steps p.tables e below (T7.setTop (mkF m 71 #[.val (.int p1), .val (.int p2), .val (.int p3), .val (.int p4), .val (.int (p4 &&& (3 : Int32))), .val (.int (-1 : Int32)), .val (.ref b5), .val (.int (own_r3 (-1 : Int32))), .unset] [])) _
    refine XS.iconst X7.here hx rfl (hb hby at_71) ?_
    show Steps p.tables e below (T7.setTop (mkF m 72 #[.val (.int p1), .val (.int p2), .val (.int p3), .val (.int p4), .val (.int (p4 &&& (3 : Int32))), .val (.int (-1 : Int32)), .val (.ref b5), .val (.int (own_r3 (-1 : Int32))), .unset] [(.int (0 : Int32))])) _
    refine XS.istore X7.here hx rfl (hb hby at_72) rfl (l' := #[.val (.int p1), .val (.int p2), .val (.int p3), .val (.int p4), .val (.int (p4 &&& (3 : Int32))), .val (.int (-1 : Int32)), .val (.ref b5), .val (.int (own_r3 (-1 : Int32))), .val (.int (0 : Int32))]) rfl ?_
    show Steps p.tables e below (T7.setTop (mkF m 74 #[.val (.int p1), .val (.int p2), .val (.int p3), .val (.int p4), .val (.int (p4 &&& (3 : Int32))), .val (.int (-1 : Int32)), .val (.ref b5), .val (.int (own_r3 (-1 : Int32))), .val (.int (0 : Int32))] [])) _
    refine XS.goto X7.here hx rfl (pc0 := 74) (pc' := 80) rfl (hb hby at_74) (by decide) (by decide) ?_
    show Steps p.tables e below (T7.setTop (mkF m 80 #[.val (.int p1), .val (.int p2), .val (.int p3), .val (.int p4), .val (.int (p4 &&& (3 : Int32))), .val (.int (-1 : Int32)), .val (.ref b5), .val (.int (own_r3 (-1 : Int32))), .val (.int (0 : Int32))] [])) _
    refine XS.iload X7.here hx rfl (hb hby at_80) rfl ?_
    show Steps p.tables e below (T7.setTop (mkF m 82 #[.val (.int p1), .val (.int p2), .val (.int p3), .val (.int p4), .val (.int (p4 &&& (3 : Int32))), .val (.int (-1 : Int32)), .val (.ref b5), .val (.int (own_r3 (-1 : Int32))), .val (.int (0 : Int32))] [(.int (own_r3 (-1 : Int32)))])) _
    refine XS.iload X7.here hx rfl (hb hby at_82) rfl ?_
    show Steps p.tables e below (T7.setTop (mkF m 84 #[.val (.int p1), .val (.int p2), .val (.int p3), .val (.int p4), .val (.int (p4 &&& (3 : Int32))), .val (.int (-1 : Int32)), .val (.ref b5), .val (.int (own_r3 (-1 : Int32))), .val (.int (0 : Int32))] [(.int (0 : Int32)), (.int (own_r3 (-1 : Int32)))])) _
    refine XS.icmpYes X7.here hx rfl (pc0 := 84) (pc' := 89) rfl (hb hby at_84) rfl (teq (by decide : (own_r3 (-1 : Int32)) = (0 : Int32))).1 (by decide) (by decide) ?_
    show Steps p.tables e below (T7.setTop (mkF m 89 #[.val (.int p1), .val (.int p2), .val (.int p3), .val (.int p4), .val (.int (p4 &&& (3 : Int32))), .val (.int (-1 : Int32)), .val (.ref b5), .val (.int (own_r3 (-1 : Int32))), .val (.int (0 : Int32))] [])) _
    refine XS.aload X7.here hx rfl (hb hby at_89) rfl rfl ?_
    show Steps p.tables e below (T7.setTop (mkF m 91 #[.val (.int p1), .val (.int p2), .val (.int p3), .val (.int p4), .val (.int (p4 &&& (3 : Int32))), .val (.int (-1 : Int32)), .val (.ref b5), .val (.int (own_r3 (-1 : Int32))), .val (.int (0 : Int32))] [(.ref b5)])) _
    refine st8.trans ?_
    show Steps p.tables e below (T8.setTop (mkF m 94 #[.val (.int p1), .val (.int p2), .val (.int p3), .val (.int p4), .val (.int (p4 &&& (3 : Int32))), .val (.int (-1 : Int32)), .val (.ref b5), .val (.int (own_r3 (-1 : Int32))), .val (.int (0 : Int32))] [(.int (-1 : Int32))])) _
    refine XS.iload X8.here hx rfl (hb hby at_94) rfl ?_
    show Steps p.tables e below (T8.setTop (mkF m 96 #[.val (.int p1), .val (.int p2), .val (.int p3), .val (.int p4), .val (.int (p4 &&& (3 : Int32))), .val (.int (-1 : Int32)), .val (.ref b5), .val (.int (own_r3 (-1 : Int32))), .val (.int (0 : Int32))] [(.int (-1 : Int32)), (.int (-1 : Int32))])) _
    refine XS.icmpYes X8.here hx rfl (pc0 := 96) (pc' := 101) rfl (hb hby at_96) rfl (teq (rfl : (-1 : Int32) = (-1 : Int32))).1 (by decide) (by decide) ?_
    show Steps p.tables e below (T8.setTop (mkF m 101 #[.val (.int p1), .val (.int p2), .val (.int p3), .val (.int p4), .val (.int (p4 &&& (3 : Int32))), .val (.int (-1 : Int32)), .val (.ref b5), .val (.int (own_r3 (-1 : Int32))), .val (.int (0 : Int32))] [])) _
    refine XS.aload X8.here hx rfl (hb hby at_101) rfl rfl ?_
    show Steps p.tables e below (T8.setTop (mkF m 103 #[.val (.int p1), .val (.int p2), .val (.int p3), .val (.int p4), .val (.int (p4 &&& (3 : Int32))), .val (.int (-1 : Int32)), .val (.ref b5), .val (.int (own_r3 (-1 : Int32))), .val (.int (0 : Int32))] [(.ref b5)])) _
    refine st9.trans ?_
    show Steps p.tables e below (T9.setTop (mkF m 106 #[.val (.int p1), .val (.int p2), .val (.int p3), .val (.int p4), .val (.int (p4 &&& (3 : Int32))), .val (.int (-1 : Int32)), .val (.ref b5), .val (.int (own_r3 (-1 : Int32))), .val (.int (0 : Int32))] [(.int p1)])) _
    refine XS.iloadN X9.here hx rfl (hb hby at_106) rfl ?_
    show Steps p.tables e below (T9.setTop (mkF m 107 #[.val (.int p1), .val (.int p2), .val (.int p3), .val (.int p4), .val (.int (p4 &&& (3 : Int32))), .val (.int (-1 : Int32)), .val (.ref b5), .val (.int (own_r3 (-1 : Int32))), .val (.int (0 : Int32))] [(.int p1), (.int p1)])) _
    refine XS.icmpYes X9.here hx rfl (pc0 := 107) (pc' := 112) rfl (hb hby at_107) rfl (teq (rfl : p1 = p1)).1 (by decide) (by decide) ?_
    show Steps p.tables e below (T9.setTop (mkF m 112 #[.val (.int p1), .val (.int p2), .val (.int p3), .val (.int p4), .val (.int (p4 &&& (3 : Int32))), .val (.int (-1 : Int32)), .val (.ref b5), .val (.int (own_r3 (-1 : Int32))), .val (.int (0 : Int32))] [])) _
    refine XS.aload X9.here hx rfl (hb hby at_112) rfl rfl ?_
    show Steps p.tables e below (T9.setTop (mkF m 114 #[.val (.int p1), .val (.int p2), .val (.int p3), .val (.int p4), .val (.int (p4 &&& (3 : Int32))), .val (.int (-1 : Int32)), .val (.ref b5), .val (.int (own_r3 (-1 : Int32))), .val (.int (0 : Int32))] [(.ref b5)])) _
    refine st10.trans ?_
    show Steps p.tables e below (T10.setTop (mkF m 117 #[.val (.int p1), .val (.int p2), .val (.int p3), .val (.int p4), .val (.int (p4 &&& (3 : Int32))), .val (.int (-1 : Int32)), .val (.ref b5), .val (.int (own_r3 (-1 : Int32))), .val (.int (0 : Int32))] [(.int p3)])) _
    refine XS.iloadN X10.here hx rfl (hb hby at_117) rfl ?_
    show Steps p.tables e below (T10.setTop (mkF m 118 #[.val (.int p1), .val (.int p2), .val (.int p3), .val (.int p4), .val (.int (p4 &&& (3 : Int32))), .val (.int (-1 : Int32)), .val (.ref b5), .val (.int (own_r3 (-1 : Int32))), .val (.int (0 : Int32))] [(.int p3), (.int p3)])) _
    refine XS.icmpNo X10.here hx rfl (hb hby at_118) rfl (teq (rfl : p3 = p3)).2 ?_
    show Steps p.tables e below (T10.setTop (mkF m 121 #[.val (.int p1), .val (.int p2), .val (.int p3), .val (.int p4), .val (.int (p4 &&& (3 : Int32))), .val (.int (-1 : Int32)), .val (.ref b5), .val (.int (own_r3 (-1 : Int32))), .val (.int (0 : Int32))] [])) _
    refine XS.iconst X10.here hx rfl (hb hby at_121) ?_
    show Steps p.tables e below (T10.setTop (mkF m 122 #[.val (.int p1), .val (.int p2), .val (.int p3), .val (.int p4), .val (.int (p4 &&& (3 : Int32))), .val (.int (-1 : Int32)), .val (.ref b5), .val (.int (own_r3 (-1 : Int32))), .val (.int (0 : Int32))] [(.int (1 : Int32))])) _
    refine XS.goto X10.here hx rfl (pc0 := 122) (pc' := 126) rfl (hb hby at_122) (by decide) (by decide) ?_
    show Steps p.tables e below (T10.setTop (mkF m 126 #[.val (.int p1), .val (.int p2), .val (.int p3), .val (.int p4), .val (.int (p4 &&& (3 : Int32))), .val (.int (-1 : Int32)), .val (.ref b5), .val (.int (own_r3 (-1 : Int32))), .val (.int (0 : Int32))] [(.int (1 : Int32))])) _
    exact retN X10 hx (t := .boolean) Bd.returns (by simp) (hb hby at_126) hr
  · show Q0 Z p1 p2 p3 p4 h0 n0 _ T10.heap _
    exact ⟨rfl, N10⟩
set_option maxRecDepth 65536 in
set_option maxHeartbeats 40000000 in
theorem rm0_b (l : Launch) (Z : State) (a0 : Array Value) (hw : ∀ d ∈ tables_1, d.before a0 Z = true) (ws : List Jvm.Cond) (p1 : Int32) (p2 : Int32) (p3 : Int32) (p4 : Int32) (h0 : Heap) (n0 : Nat) (Z0 : n0 ≤ h0.size) (hc8 : ¬ ((p4 &&& (3 : Int32)) = (1 : Int32))) (hc20 : (p4 &&& (3 : Int32)) = (2 : Int32)) (hc68 : ¬ ((-2 : Int32) = (-1 : Int32))) :
    MetFree l x (head1 (Jvm.Cond.code x code maxLocals ret :: ws) room_1) (fun a U => a = #[(.int p1), (.int p2), (.int p3), (.int p4)] ∧ Z.Warmed39 U.vm ∧ U.heap = h0) (fun _ _ _ _ _ => True) (fun _ U o U' => ∃ v L, o = .returned v ∧ Q0 Z p1 p2 p3 p4 h0 n0 v U'.heap L ∧ FrameEnd U o U' L room_1.cells room_1.slots) := by
  refine MetFree.of_bodySF (plainFor_of_name pn_0) hisR ?_
  intro p e s m args below meth c s₁ Bd hml0 hP hK
  obtain ⟨rfl, hZ, hh⟩ := hP
  have hx := Bd.exec
  have hby := Bd.bytes
  have hml : c.maxLocals = 9 := hml0
  have hown : s.vm.findClass "com/example/trailplan/trailplan/model/AssignmentHasResourcePinLaw" = some m.cls := findClass_of_methodNamed Bd.named
  have hnm := (name_of_methodNamed Bd.named Bd.method).1
  have X0 : Stand p l e room_1 s m #[(.int p1), (.int p2), (.int p3), (.int p4)] below meth c s₁ [] 0 0 := Stand.of_body Bd
  have e0 : s₁.heap = h0 := by rw [← hh, Bd.state]; rfl
  have N0 := Fr.nil n0
  have pre0 : ∀ t, Steps p.tables e below (s₁.setTop (mkF m 0 #[.val (.int p1), .val (.int p2), .val (.int p3), .val (.int p4), .unset, .unset, .unset, .unset, .unset] [])) t → Steps p.tables e below (s₁.setTop (entryFrame m #[(.int p1), (.int p2), (.int p3), (.int p4)] maxLocals)) t := fun t k => castTop (ef_0 m p1 p2 p3 p4) k
  obtain ⟨T5, h5, X5, e5, E5, A5, D5, -, st5⟩ := newO X0 hx hZ hown (hw _ (List.mem_of_getElem? (i := 0) rfl)) (hw _ (List.mem_of_getElem? (i := 1) rfl)) (hw _ (List.mem_of_getElem? (i := 2) rfl)) e0 (g := (mkF m 45 #[.val (.int p1), .val (.int p2), .val (.int p3), .val (.int p4), .val (.int (p4 &&& (3 : Int32))), .val (.int (-2 : Int32)), .unset, .unset, .unset] [])) rfl (hb hby at_45) (by decide) (by decide)
  obtain ⟨b5, g5⟩ : ∃ z, z = h0.size := ⟨_, rfl⟩
  rw [← g5] at A5 D5 st5
  have F_task_b5 : Fld Z h5 b5 "com/example/trailplan/trailplan/model/Assignment" "task" "I" (.int (0 : Int32)) := D5 (Or.inr (hw _ (List.mem_of_getElem? (i := 10) rfl))) (ty := .int) (by decide)
  have F_resource_b5 : Fld Z h5 b5 "com/example/trailplan/trailplan/model/Assignment" "resource" "I" (.int (0 : Int32)) := D5 (Or.inr (hw _ (List.mem_of_getElem? (i := 12) rfl))) (ty := .int) (by decide)
  have F_start_b5 : Fld Z h5 b5 "com/example/trailplan/trailplan/model/Assignment" "start" "I" (.int (0 : Int32)) := D5 (Or.inr (hw _ (List.mem_of_getElem? (i := 14) rfl))) (ty := .int) (by decide)
  have E_b5 := A5
  have g_b5 : n0 ≤ b5 := Nat.le_trans Z0 (Nat.le_of_eq g5.symm)
  have sz_b5 : h0.size ≤ b5 := (Nat.le_trans (Keep.refl h0 []).1 (Nat.le_of_eq g5.symm))
  have K5 : Keep h0 h5 [] := (Keep.refl h0 []).ext E5
  obtain ⟨_, _, ⟨T6, L6, k6, n6⟩, -, X6, ⟨Lc6, hQ6, l6, y6, z6⟩, st6⟩ := X5.specialBack hx (y := (⟨"com/example/trailplan/trailplan/model/Assignment", "<init>", "(III)V"⟩ : MethodName)) rfl hown (mvT hZ (hw _ (List.mem_of_getElem? (i := 3) rfl))) (mvT hZ (hw _ (List.mem_of_getElem? (i := 4) rfl))) (mvT hZ (hw _ (List.mem_of_getElem? (i := 5) rfl))) (by decide) (backOf (W := 1) (rm1 l Z a0 hw [] b5 p1 (-2 : Int32) p3 (.int (0 : Int32)) (.int (0 : Int32)) (.int (0 : Int32)) h5 n0 (Nat.le_trans Z0 K5.1) E_b5 F_task_b5 g_b5 F_resource_b5 F_start_b5) hZ (hw _ (List.mem_of_getElem? (i := 5) rfl)) (hw _ (List.mem_of_getElem? (i := 2) rfl)) (by decide) (by decide)) (g := (mkF m 53 #[.val (.int p1), .val (.int p2), .val (.int p3), .val (.int p4), .val (.int (p4 &&& (3 : Int32))), .val (.int (-2 : Int32)), .unset, .unset, .unset] [(.int p3), (.int (-2 : Int32)), (.int p1), (.ref b5), (.ref b5)])) rfl (by rw [hml]; rfl) (Steps.refl _) (a := b5) (argsL := [(.int p1), (.int (-2 : Int32)), (.int p3)]) (rest := [(.ref b5)]) (lenOf pdx_0 rfl) rfl (by show 2 * 0 + _ ≤ _; exact Nat.le_of_eq rfl) (hb hby at_53) (fun _ _ => ⟨rfl, e5, (by decide : 1 + 0 ≤ _), (by decide : 3 + 0 ≤ _)⟩)
  dsimp only [Pt.U, Pt.locs, Pt.cells, Pt.slots] at X6 l6 y6 z6 st6 hQ6
  subst l6 y6 z6
  obtain ⟨rfl, N6q, K6, E6, F6t, F6r, F6s⟩ := hQ6
  have N6 := Fr.app N0 N6q
  have Z6 : n0 ≤ T6.heap.size := Nat.le_trans Z0 (Nat.le_trans K5.1 K6.1)
  obtain ⟨cq7, kq7, q7a, q7b, q7c⟩ := isOf hZ rfl E6
  obtain ⟨_, _, ⟨T7, L7, k7, n7⟩, -, X7, ⟨Lc7, hQ7, l7, y7, z7⟩, st7⟩ := X6.virtualBack hx (y := (⟨"com/example/trailplan/trailplan/model/Assignment", "hasResource", "()Z"⟩ : MethodName)) (z := (⟨"com/example/trailplan/trailplan/model/Assignment", "hasResource", "()Z"⟩ : MethodName)) hown (mvT hZ (hw _ (List.mem_of_getElem? (i := 15) rfl))) (mvT hZ (hw _ (List.mem_of_getElem? (i := 16) rfl))) (notFace_of_selects (args := #[]) (mvT hZ (hw _ (List.mem_of_getElem? (i := 18) rfl)))) (mvT hZ (hw _ (List.mem_of_getElem? (i := 18) rfl))) (mvT hZ (hw _ (List.mem_of_getElem? (i := 17) rfl))) (by decide) (backOf (W := 0) (rm3 l Z a0 hw [] b5 (-2 : Int32) T6.heap n0 Z6 F6r) hZ (hw _ (List.mem_of_getElem? (i := 19) rfl)) (hw _ (List.mem_of_getElem? (i := 2) rfl)) (by decide) (by decide)) q7a q7c (g := (mkF m 60 #[.val (.int p1), .val (.int p2), .val (.int p3), .val (.int p4), .val (.int (p4 &&& (3 : Int32))), .val (.int (-2 : Int32)), .val (.ref b5), .unset, .unset] [(.ref b5)])) rfl (by rw [hml]; rfl) (Steps.refl _) (argsL := []) (rest := []) (lenOf pdx_1 rfl) rfl (by show 2 * 0 + _ ≤ _; exact Nat.le_of_eq rfl) (hb hby at_60) (fun _ _ => ⟨rfl, rfl, (by decide : 1 + 0 ≤ _), (by decide : 3 + 0 ≤ _)⟩)
  dsimp only [Pt.U, Pt.locs, Pt.cells, Pt.slots] at X7 l7 y7 z7 st7 hQ7
  subst l7 y7 z7
  obtain ⟨rfl, N7q, e7⟩ := hQ7
  have N7 := Fr.app N6 N7q
  have Z7 : n0 ≤ T7.heap.size := by rw [e7]; exact Z6
  obtain ⟨cq8, kq8, q8a, q8b, q8c⟩ := isOf hZ rfl (show Exa Z T7.heap b5 _ by rw [e7]; exact E6)
  obtain ⟨_, _, ⟨T8, L8, k8, n8⟩, -, X8, ⟨Lc8, hQ8, l8, y8, z8⟩, st8⟩ := X7.virtualBack hx (y := (⟨"com/example/trailplan/trailplan/model/Assignment", "resource", "()I"⟩ : MethodName)) (z := (⟨"com/example/trailplan/trailplan/model/Assignment", "resource", "()I"⟩ : MethodName)) hown (mvT hZ (hw _ (List.mem_of_getElem? (i := 20) rfl))) (mvT hZ (hw _ (List.mem_of_getElem? (i := 21) rfl))) (notFace_of_selects (args := #[]) (mvT hZ (hw _ (List.mem_of_getElem? (i := 23) rfl)))) (mvT hZ (hw _ (List.mem_of_getElem? (i := 23) rfl))) (mvT hZ (hw _ (List.mem_of_getElem? (i := 22) rfl))) (by decide) (backOf (W := 0) (rm4 l Z a0 hw [] b5 (-2 : Int32) T7.heap n0 Z7 (by rw [e7]; exact F6r)) hZ (hw _ (List.mem_of_getElem? (i := 24) rfl)) (hw _ (List.mem_of_getElem? (i := 2) rfl)) (by decide) (by decide)) q8a q8c (g := (mkF m 91 #[.val (.int p1), .val (.int p2), .val (.int p3), .val (.int p4), .val (.int (p4 &&& (3 : Int32))), .val (.int (-2 : Int32)), .val (.ref b5), .val (.int (own_r3 (-2 : Int32))), .val (.int (1 : Int32))] [(.ref b5)])) rfl (by rw [hml]; rfl) (Steps.refl _) (argsL := []) (rest := []) (lenOf pdx_2 rfl) rfl (by show 2 * 0 + _ ≤ _; exact Nat.le_of_eq rfl) (hb hby at_91) (fun _ _ => ⟨rfl, rfl, (by decide : 1 + 0 ≤ _), (by decide : 3 + 0 ≤ _)⟩)
  dsimp only [Pt.U, Pt.locs, Pt.cells, Pt.slots] at X8 l8 y8 z8 st8 hQ8
  subst l8 y8 z8
  obtain ⟨rfl, N8q, e8⟩ := hQ8
  have N8 := Fr.app N7 N8q
  have Z8 : n0 ≤ T8.heap.size := by rw [e8]; exact Z7
  obtain ⟨cq9, kq9, q9a, q9b, q9c⟩ := isOf hZ rfl (show Exa Z T8.heap b5 _ by rw [e8, e7]; exact E6)
  obtain ⟨_, _, ⟨T9, L9, k9, n9⟩, -, X9, ⟨Lc9, hQ9, l9, y9, z9⟩, st9⟩ := X8.virtualBack hx (y := (⟨"com/example/trailplan/trailplan/model/Assignment", "task", "()I"⟩ : MethodName)) (z := (⟨"com/example/trailplan/trailplan/model/Assignment", "task", "()I"⟩ : MethodName)) hown (mvT hZ (hw _ (List.mem_of_getElem? (i := 25) rfl))) (mvT hZ (hw _ (List.mem_of_getElem? (i := 26) rfl))) (notFace_of_selects (args := #[]) (mvT hZ (hw _ (List.mem_of_getElem? (i := 28) rfl)))) (mvT hZ (hw _ (List.mem_of_getElem? (i := 28) rfl))) (mvT hZ (hw _ (List.mem_of_getElem? (i := 27) rfl))) (by decide) (backOf (W := 0) (rm5 l Z a0 hw [] b5 p1 T8.heap n0 Z8 (by rw [e8, e7]; exact F6t)) hZ (hw _ (List.mem_of_getElem? (i := 29) rfl)) (hw _ (List.mem_of_getElem? (i := 2) rfl)) (by decide) (by decide)) q9a q9c (g := (mkF m 103 #[.val (.int p1), .val (.int p2), .val (.int p3), .val (.int p4), .val (.int (p4 &&& (3 : Int32))), .val (.int (-2 : Int32)), .val (.ref b5), .val (.int (own_r3 (-2 : Int32))), .val (.int (1 : Int32))] [(.ref b5)])) rfl (by rw [hml]; rfl) (Steps.refl _) (argsL := []) (rest := []) (lenOf pdx_2 rfl) rfl (by show 2 * 0 + _ ≤ _; exact Nat.le_of_eq rfl) (hb hby at_103) (fun _ _ => ⟨rfl, rfl, (by decide : 1 + 0 ≤ _), (by decide : 3 + 0 ≤ _)⟩)
  dsimp only [Pt.U, Pt.locs, Pt.cells, Pt.slots] at X9 l9 y9 z9 st9 hQ9
  subst l9 y9 z9
  obtain ⟨rfl, N9q, e9⟩ := hQ9
  have N9 := Fr.app N8 N9q
  have Z9 : n0 ≤ T9.heap.size := by rw [e9]; exact Z8
  obtain ⟨cq10, kq10, q10a, q10b, q10c⟩ := isOf hZ rfl (show Exa Z T9.heap b5 _ by rw [e9, e8, e7]; exact E6)
  obtain ⟨_, _, ⟨T10, L10, k10, n10⟩, -, X10, ⟨Lc10, hQ10, l10, y10, z10⟩, st10⟩ := X9.virtualBack hx (y := (⟨"com/example/trailplan/trailplan/model/Assignment", "start", "()I"⟩ : MethodName)) (z := (⟨"com/example/trailplan/trailplan/model/Assignment", "start", "()I"⟩ : MethodName)) hown (mvT hZ (hw _ (List.mem_of_getElem? (i := 30) rfl))) (mvT hZ (hw _ (List.mem_of_getElem? (i := 31) rfl))) (notFace_of_selects (args := #[]) (mvT hZ (hw _ (List.mem_of_getElem? (i := 33) rfl)))) (mvT hZ (hw _ (List.mem_of_getElem? (i := 33) rfl))) (mvT hZ (hw _ (List.mem_of_getElem? (i := 32) rfl))) (by decide) (backOf (W := 0) (rm6 l Z a0 hw [] b5 p3 T9.heap n0 Z9 (by rw [e9, e8, e7]; exact F6s)) hZ (hw _ (List.mem_of_getElem? (i := 34) rfl)) (hw _ (List.mem_of_getElem? (i := 2) rfl)) (by decide) (by decide)) q10a q10c (g := (mkF m 114 #[.val (.int p1), .val (.int p2), .val (.int p3), .val (.int p4), .val (.int (p4 &&& (3 : Int32))), .val (.int (-2 : Int32)), .val (.ref b5), .val (.int (own_r3 (-2 : Int32))), .val (.int (1 : Int32))] [(.ref b5)])) rfl (by rw [hml]; rfl) (Steps.refl _) (argsL := []) (rest := []) (lenOf pdx_2 rfl) rfl (by show 2 * 0 + _ ≤ _; exact Nat.le_of_eq rfl) (hb hby at_114) (fun _ _ => ⟨rfl, rfl, (by decide : 1 + 0 ≤ _), (by decide : 3 + 0 ≤ _)⟩)
  dsimp only [Pt.U, Pt.locs, Pt.cells, Pt.slots] at X10 l10 y10 z10 st10 hQ10
  subst l10 y10 z10
  obtain ⟨rfl, N10q, e10⟩ := hQ10
  have N10 := Fr.app N9 N10q
  obtain ⟨fs, hr, hrun, hended, hW, hsame⟩ := X10.leave (v := some (.int (1 : Int32))) (fun h => by rw [Bd.returns] at h; cases h)
  refine ⟨_, _, pre0 _ ?_, hrun, hended, _, _, rfl, ?_, ⟨_, rfl⟩, hW, hsame.mono (by decide) (by decide)⟩
  · show Steps p.tables e below (s₁.setTop (mkF m 0 #[.val (.int p1), .val (.int p2), .val (.int p3), .val (.int p4), .unset, .unset, .unset, .unset, .unset] [])) _
    refine XS.iloadN X0.here hx rfl (hb hby at_0) rfl ?_
    show Steps p.tables e below (s₁.setTop (mkF m 1 #[.val (.int p1), .val (.int p2), .val (.int p3), .val (.int p4), .unset, .unset, .unset, .unset, .unset] [(.int p4)])) _
    refine XS.iconst X0.here hx rfl (hb hby at_1) ?_
    show Steps p.tables e below (s₁.setTop (mkF m 2 #[.val (.int p1), .val (.int p2), .val (.int p3), .val (.int p4), .unset, .unset, .unset, .unset, .unset] [(.int (3 : Int32)), (.int p4)])) _
    refine XS.iand X0.here hx rfl (hb hby at_2) rfl ?_
    show Steps p.tables e below (s₁.setTop (mkF m 3 #[.val (.int p1), .val (.int p2), .val (.int p3), .val (.int p4), .unset, .unset, .unset, .unset, .unset] [(.int (p4 &&& (3 : Int32)))])) _
    refine XS.istore X0.here hx rfl (hb hby at_3) rfl (l' := #[.val (.int p1), .val (.int p2), .val (.int p3), .val (.int p4), .val (.int (p4 &&& (3 : Int32))), .unset, .unset, .unset, .unset]) rfl ?_
    show Steps p.tables e below (s₁.setTop (mkF m 5 #[.val (.int p1), .val (.int p2), .val (.int p3), .val (.int p4), .val (.int (p4 &&& (3 : Int32))), .unset, .unset, .unset, .unset] [])) _
    refine XS.iload X0.here hx rfl (hb hby at_5) rfl ?_
    show Steps p.tables e below (s₁.setTop (mkF m 7 #[.val (.int p1), .val (.int p2), .val (.int p3), .val (.int p4), .val (.int (p4 &&& (3 : Int32))), .unset, .unset, .unset, .unset] [(.int (p4 &&& (3 : Int32)))])) _
    refine XS.iconst X0.here hx rfl (hb hby at_7) ?_
    show Steps p.tables e below (s₁.setTop (mkF m 8 #[.val (.int p1), .val (.int p2), .val (.int p3), .val (.int p4), .val (.int (p4 &&& (3 : Int32))), .unset, .unset, .unset, .unset] [(.int (1 : Int32)), (.int (p4 &&& (3 : Int32)))])) _
    refine XS.icmpYes X0.here hx rfl (pc0 := 8) (pc' := 17) rfl (hb hby at_8) rfl (feq hc8).2 (by decide) (by decide) ?_
    show Steps p.tables e below (s₁.setTop (mkF m 17 #[.val (.int p1), .val (.int p2), .val (.int p3), .val (.int p4), .val (.int (p4 &&& (3 : Int32))), .unset, .unset, .unset, .unset] [])) _
    refine XS.iload X0.here hx rfl (hb hby at_17) rfl ?_
    show Steps p.tables e below (s₁.setTop (mkF m 19 #[.val (.int p1), .val (.int p2), .val (.int p3), .val (.int p4), .val (.int (p4 &&& (3 : Int32))), .unset, .unset, .unset, .unset] [(.int (p4 &&& (3 : Int32)))])) _
    refine XS.iconst X0.here hx rfl (hb hby at_19) ?_
    show Steps p.tables e below (s₁.setTop (mkF m 20 #[.val (.int p1), .val (.int p2), .val (.int p3), .val (.int p4), .val (.int (p4 &&& (3 : Int32))), .unset, .unset, .unset, .unset] [(.int (2 : Int32)), (.int (p4 &&& (3 : Int32)))])) _
    refine XS.icmpNo X0.here hx rfl (hb hby at_20) rfl (teq hc20).2 ?_
    show Steps p.tables e below (s₁.setTop (mkF m 23 #[.val (.int p1), .val (.int p2), .val (.int p3), .val (.int p4), .val (.int (p4 &&& (3 : Int32))), .unset, .unset, .unset, .unset] [])) _
    refine XS.bipush X0.here hx rfl (hb hby at_23) ?_
    show Steps p.tables e below (s₁.setTop (mkF m 25 #[.val (.int p1), .val (.int p2), .val (.int p3), .val (.int p4), .val (.int (p4 &&& (3 : Int32))), .unset, .unset, .unset, .unset] [(.int (-2 : Int32))])) _
    refine XS.istore X0.here hx rfl (hb hby at_25) rfl (l' := #[.val (.int p1), .val (.int p2), .val (.int p3), .val (.int p4), .val (.int (p4 &&& (3 : Int32))), .val (.int (-2 : Int32)), .unset, .unset, .unset]) rfl ?_
    show Steps p.tables e below (s₁.setTop (mkF m 27 #[.val (.int p1), .val (.int p2), .val (.int p3), .val (.int p4), .val (.int (p4 &&& (3 : Int32))), .val (.int (-2 : Int32)), .unset, .unset, .unset] [])) _
    refine XS.goto X0.here hx rfl (pc0 := 27) (pc' := 45) rfl (hb hby at_27) (by decide) (by decide) ?_
    show Steps p.tables e below (s₁.setTop (mkF m 45 #[.val (.int p1), .val (.int p2), .val (.int p3), .val (.int p4), .val (.int (p4 &&& (3 : Int32))), .val (.int (-2 : Int32)), .unset, .unset, .unset] [])) _
    refine st5 _ ?_
    show Steps p.tables e below (T5.setTop (mkF m 48 #[.val (.int p1), .val (.int p2), .val (.int p3), .val (.int p4), .val (.int (p4 &&& (3 : Int32))), .val (.int (-2 : Int32)), .unset, .unset, .unset] [(.ref b5)])) _
    refine XS.dup X5.here hx rfl (hb hby at_48) rfl rfl ?_
    show Steps p.tables e below (T5.setTop (mkF m 49 #[.val (.int p1), .val (.int p2), .val (.int p3), .val (.int p4), .val (.int (p4 &&& (3 : Int32))), .val (.int (-2 : Int32)), .unset, .unset, .unset] [(.ref b5), (.ref b5)])) _
    refine XS.iloadN X5.here hx rfl (hb hby at_49) rfl ?_
    show Steps p.tables e below (T5.setTop (mkF m 50 #[.val (.int p1), .val (.int p2), .val (.int p3), .val (.int p4), .val (.int (p4 &&& (3 : Int32))), .val (.int (-2 : Int32)), .unset, .unset, .unset] [(.int p1), (.ref b5), (.ref b5)])) _
    refine XS.iload X5.here hx rfl (hb hby at_50) rfl ?_
    show Steps p.tables e below (T5.setTop (mkF m 52 #[.val (.int p1), .val (.int p2), .val (.int p3), .val (.int p4), .val (.int (p4 &&& (3 : Int32))), .val (.int (-2 : Int32)), .unset, .unset, .unset] [(.int (-2 : Int32)), (.int p1), (.ref b5), (.ref b5)])) _
    refine XS.iloadN X5.here hx rfl (hb hby at_52) rfl ?_
    show Steps p.tables e below (T5.setTop (mkF m 53 #[.val (.int p1), .val (.int p2), .val (.int p3), .val (.int p4), .val (.int (p4 &&& (3 : Int32))), .val (.int (-2 : Int32)), .unset, .unset, .unset] [(.int p3), (.int (-2 : Int32)), (.int p1), (.ref b5), (.ref b5)])) _
    refine st6.trans ?_
    show Steps p.tables e below (T6.setTop (mkF m 56 #[.val (.int p1), .val (.int p2), .val (.int p3), .val (.int p4), .val (.int (p4 &&& (3 : Int32))), .val (.int (-2 : Int32)), .unset, .unset, .unset] [(.ref b5)])) _
    refine XS.astore X6.here hx rfl (hb hby at_56) rfl rfl (l' := #[.val (.int p1), .val (.int p2), .val (.int p3), .val (.int p4), .val (.int (p4 &&& (3 : Int32))), .val (.int (-2 : Int32)), .val (.ref b5), .unset, .unset]) rfl ?_
    show Steps p.tables e below (T6.setTop (mkF m 58 #[.val (.int p1), .val (.int p2), .val (.int p3), .val (.int p4), .val (.int (p4 &&& (3 : Int32))), .val (.int (-2 : Int32)), .val (.ref b5), .unset, .unset] [])) _
    refine XS.aload X6.here hx rfl (hb hby at_58) rfl rfl ?_
    show Steps p.tables e below (T6.setTop (mkF m 60 #[.val (.int p1), .val (.int p2), .val (.int p3), .val (.int p4), .val (.int (p4 &&& (3 : Int32))), .val (.int (-2 : Int32)), .val (.ref b5), .unset, .unset] [(.ref b5)])) _
    refine st7.trans ?_
    show Steps p.tables e below (T7.setTop (mkF m 63 #[.val (.int p1), .val (.int p2), .val (.int p3), .val (.int p4), .val (.int (p4 &&& (3 : Int32))), .val (.int (-2 : Int32)), .val (.ref b5), .unset, .unset] [(.int (own_r3 (-2 : Int32)))])) _
    refine XS.istore X7.here hx rfl (hb hby at_63) rfl (l' := #[.val (.int p1), .val (.int p2), .val (.int p3), .val (.int p4), .val (.int (p4 &&& (3 : Int32))), .val (.int (-2 : Int32)), .val (.ref b5), .val (.int (own_r3 (-2 : Int32))), .unset]) rfl ?_
    show Steps p.tables e below (T7.setTop (mkF m 65 #[.val (.int p1), .val (.int p2), .val (.int p3), .val (.int p4), .val (.int (p4 &&& (3 : Int32))), .val (.int (-2 : Int32)), .val (.ref b5), .val (.int (own_r3 (-2 : Int32))), .unset] [])) _
    refine XS.iload X7.here hx rfl (hb hby at_65) rfl ?_
    show Steps p.tables e below (T7.setTop (mkF m 67 #[.val (.int p1), .val (.int p2), .val (.int p3), .val (.int p4), .val (.int (p4 &&& (3 : Int32))), .val (.int (-2 : Int32)), .val (.ref b5), .val (.int (own_r3 (-2 : Int32))), .unset] [(.int (-2 : Int32))])) _
    refine XS.iconst X7.here hx rfl (hb hby at_67) ?_
    show Steps p.tables e below (T7.setTop (mkF m 68 #[.val (.int p1), .val (.int p2), .val (.int p3), .val (.int p4), .val (.int (p4 &&& (3 : Int32))), .val (.int (-2 : Int32)), .val (.ref b5), .val (.int (own_r3 (-2 : Int32))), .unset] [(.int (-1 : Int32)), (.int (-2 : Int32))])) _
    refine XS.icmpYes X7.here hx rfl (pc0 := 68) (pc' := 77) rfl (hb hby at_68) rfl (feq hc68).2 (by decide) (by decide) ?_
    show Steps p.tables e below (T7.setTop (mkF m 77 #[.val (.int p1), .val (.int p2), .val (.int p3), .val (.int p4), .val (.int (p4 &&& (3 : Int32))), .val (.int (-2 : Int32)), .val (.ref b5), .val (.int (own_r3 (-2 : Int32))), .unset] [])) _
    refine XS.iconst X7.here hx rfl (hb hby at_77) ?_
    show Steps p.tables e below (T7.setTop (mkF m 78 #[.val (.int p1), .val (.int p2), .val (.int p3), .val (.int p4), .val (.int (p4 &&& (3 : Int32))), .val (.int (-2 : Int32)), .val (.ref b5), .val (.int (own_r3 (-2 : Int32))), .unset] [(.int (1 : Int32))])) _
    refine XS.istore X7.here hx rfl (hb hby at_78) rfl (l' := #[.val (.int p1), .val (.int p2), .val (.int p3), .val (.int p4), .val (.int (p4 &&& (3 : Int32))), .val (.int (-2 : Int32)), .val (.ref b5), .val (.int (own_r3 (-2 : Int32))), .val (.int (1 : Int32))]) rfl ?_
    show Steps p.tables e below (T7.setTop (mkF m 80 #[.val (.int p1), .val (.int p2), .val (.int p3), .val (.int p4), .val (.int (p4 &&& (3 : Int32))), .val (.int (-2 : Int32)), .val (.ref b5), .val (.int (own_r3 (-2 : Int32))), .val (.int (1 : Int32))] [])) _
    refine XS.iload X7.here hx rfl (hb hby at_80) rfl ?_
    show Steps p.tables e below (T7.setTop (mkF m 82 #[.val (.int p1), .val (.int p2), .val (.int p3), .val (.int p4), .val (.int (p4 &&& (3 : Int32))), .val (.int (-2 : Int32)), .val (.ref b5), .val (.int (own_r3 (-2 : Int32))), .val (.int (1 : Int32))] [(.int (own_r3 (-2 : Int32)))])) _
    refine XS.iload X7.here hx rfl (hb hby at_82) rfl ?_
    show Steps p.tables e below (T7.setTop (mkF m 84 #[.val (.int p1), .val (.int p2), .val (.int p3), .val (.int p4), .val (.int (p4 &&& (3 : Int32))), .val (.int (-2 : Int32)), .val (.ref b5), .val (.int (own_r3 (-2 : Int32))), .val (.int (1 : Int32))] [(.int (1 : Int32)), (.int (own_r3 (-2 : Int32)))])) _
    refine XS.icmpYes X7.here hx rfl (pc0 := 84) (pc' := 89) rfl (hb hby at_84) rfl (teq (by decide : (own_r3 (-2 : Int32)) = (1 : Int32))).1 (by decide) (by decide) ?_
    show Steps p.tables e below (T7.setTop (mkF m 89 #[.val (.int p1), .val (.int p2), .val (.int p3), .val (.int p4), .val (.int (p4 &&& (3 : Int32))), .val (.int (-2 : Int32)), .val (.ref b5), .val (.int (own_r3 (-2 : Int32))), .val (.int (1 : Int32))] [])) _
    refine XS.aload X7.here hx rfl (hb hby at_89) rfl rfl ?_
    show Steps p.tables e below (T7.setTop (mkF m 91 #[.val (.int p1), .val (.int p2), .val (.int p3), .val (.int p4), .val (.int (p4 &&& (3 : Int32))), .val (.int (-2 : Int32)), .val (.ref b5), .val (.int (own_r3 (-2 : Int32))), .val (.int (1 : Int32))] [(.ref b5)])) _
    refine st8.trans ?_
    show Steps p.tables e below (T8.setTop (mkF m 94 #[.val (.int p1), .val (.int p2), .val (.int p3), .val (.int p4), .val (.int (p4 &&& (3 : Int32))), .val (.int (-2 : Int32)), .val (.ref b5), .val (.int (own_r3 (-2 : Int32))), .val (.int (1 : Int32))] [(.int (-2 : Int32))])) _
    refine XS.iload X8.here hx rfl (hb hby at_94) rfl ?_
    show Steps p.tables e below (T8.setTop (mkF m 96 #[.val (.int p1), .val (.int p2), .val (.int p3), .val (.int p4), .val (.int (p4 &&& (3 : Int32))), .val (.int (-2 : Int32)), .val (.ref b5), .val (.int (own_r3 (-2 : Int32))), .val (.int (1 : Int32))] [(.int (-2 : Int32)), (.int (-2 : Int32))])) _
    refine XS.icmpYes X8.here hx rfl (pc0 := 96) (pc' := 101) rfl (hb hby at_96) rfl (teq (rfl : (-2 : Int32) = (-2 : Int32))).1 (by decide) (by decide) ?_
    show Steps p.tables e below (T8.setTop (mkF m 101 #[.val (.int p1), .val (.int p2), .val (.int p3), .val (.int p4), .val (.int (p4 &&& (3 : Int32))), .val (.int (-2 : Int32)), .val (.ref b5), .val (.int (own_r3 (-2 : Int32))), .val (.int (1 : Int32))] [])) _
    refine XS.aload X8.here hx rfl (hb hby at_101) rfl rfl ?_
    show Steps p.tables e below (T8.setTop (mkF m 103 #[.val (.int p1), .val (.int p2), .val (.int p3), .val (.int p4), .val (.int (p4 &&& (3 : Int32))), .val (.int (-2 : Int32)), .val (.ref b5), .val (.int (own_r3 (-2 : Int32))), .val (.int (1 : Int32))] [(.ref b5)])) _
    refine st9.trans ?_
    show Steps p.tables e below (T9.setTop (mkF m 106 #[.val (.int p1), .val (.int p2), .val (.int p3), .val (.int p4), .val (.int (p4 &&& (3 : Int32))), .val (.int (-2 : Int32)), .val (.ref b5), .val (.int (own_r3 (-2 : Int32))), .val (.int (1 : Int32))] [(.int p1)])) _
    refine XS.iloadN X9.here hx rfl (hb hby at_106) rfl ?_
    show Steps p.tables e below (T9.setTop (mkF m 107 #[.val (.int p1), .val (.int p2), .val (.int p3), .val (.int p4), .val (.int (p4 &&& (3 : Int32))), .val (.int (-2 : Int32)), .val (.ref b5), .val (.int (own_r3 (-2 : Int32))), .val (.int (1 : Int32))] [(.int p1), (.int p1)])) _
    refine XS.icmpYes X9.here hx rfl (pc0 := 107) (pc' := 112) rfl (hb hby at_107) rfl (teq (rfl : p1 = p1)).1 (by decide) (by decide) ?_
    show Steps p.tables e below (T9.setTop (mkF m 112 #[.val (.int p1), .val (.int p2), .val (.int p3), .val (.int p4), .val (.int (p4 &&& (3 : Int32))), .val (.int (-2 : Int32)), .val (.ref b5), .val (.int (own_r3 (-2 : Int32))), .val (.int (1 : Int32))] [])) _
    refine XS.aload X9.here hx rfl (hb hby at_112) rfl rfl ?_
    show Steps p.tables e below (T9.setTop (mkF m 114 #[.val (.int p1), .val (.int p2), .val (.int p3), .val (.int p4), .val (.int (p4 &&& (3 : Int32))), .val (.int (-2 : Int32)), .val (.ref b5), .val (.int (own_r3 (-2 : Int32))), .val (.int (1 : Int32))] [(.ref b5)])) _
    refine st10.trans ?_
    show Steps p.tables e below (T10.setTop (mkF m 117 #[.val (.int p1), .val (.int p2), .val (.int p3), .val (.int p4), .val (.int (p4 &&& (3 : Int32))), .val (.int (-2 : Int32)), .val (.ref b5), .val (.int (own_r3 (-2 : Int32))), .val (.int (1 : Int32))] [(.int p3)])) _
    refine XS.iloadN X10.here hx rfl (hb hby at_117) rfl ?_
    show Steps p.tables e below (T10.setTop (mkF m 118 #[.val (.int p1), .val (.int p2), .val (.int p3), .val (.int p4), .val (.int (p4 &&& (3 : Int32))), .val (.int (-2 : Int32)), .val (.ref b5), .val (.int (own_r3 (-2 : Int32))), .val (.int (1 : Int32))] [(.int p3), (.int p3)])) _
    refine XS.icmpNo X10.here hx rfl (hb hby at_118) rfl (teq (rfl : p3 = p3)).2 ?_
    show Steps p.tables e below (T10.setTop (mkF m 121 #[.val (.int p1), .val (.int p2), .val (.int p3), .val (.int p4), .val (.int (p4 &&& (3 : Int32))), .val (.int (-2 : Int32)), .val (.ref b5), .val (.int (own_r3 (-2 : Int32))), .val (.int (1 : Int32))] [])) _
    refine XS.iconst X10.here hx rfl (hb hby at_121) ?_
    show Steps p.tables e below (T10.setTop (mkF m 122 #[.val (.int p1), .val (.int p2), .val (.int p3), .val (.int p4), .val (.int (p4 &&& (3 : Int32))), .val (.int (-2 : Int32)), .val (.ref b5), .val (.int (own_r3 (-2 : Int32))), .val (.int (1 : Int32))] [(.int (1 : Int32))])) _
    refine XS.goto X10.here hx rfl (pc0 := 122) (pc' := 126) rfl (hb hby at_122) (by decide) (by decide) ?_
    show Steps p.tables e below (T10.setTop (mkF m 126 #[.val (.int p1), .val (.int p2), .val (.int p3), .val (.int p4), .val (.int (p4 &&& (3 : Int32))), .val (.int (-2 : Int32)), .val (.ref b5), .val (.int (own_r3 (-2 : Int32))), .val (.int (1 : Int32))] [(.int (1 : Int32))])) _
    exact retN X10 hx (t := .boolean) Bd.returns (by simp) (hb hby at_126) hr
  · show Q0 Z p1 p2 p3 p4 h0 n0 _ T10.heap _
    exact ⟨rfl, N10⟩
set_option maxRecDepth 65536 in
set_option maxHeartbeats 40000000 in
theorem rm0_c (l : Launch) (Z : State) (a0 : Array Value) (hw : ∀ d ∈ tables_1, d.before a0 Z = true) (ws : List Jvm.Cond) (p1 : Int32) (p2 : Int32) (p3 : Int32) (p4 : Int32) (h0 : Heap) (n0 : Nat) (Z0 : n0 ≤ h0.size) (hc8 : ¬ ((p4 &&& (3 : Int32)) = (1 : Int32))) (hc20 : ¬ ((p4 &&& (3 : Int32)) = (2 : Int32))) (hc33 : (p4 &&& (3 : Int32)) = (3 : Int32)) (hc68 : ¬ ((0 : Int32) = (-1 : Int32))) :
    MetFree l x (head1 (Jvm.Cond.code x code maxLocals ret :: ws) room_1) (fun a U => a = #[(.int p1), (.int p2), (.int p3), (.int p4)] ∧ Z.Warmed39 U.vm ∧ U.heap = h0) (fun _ _ _ _ _ => True) (fun _ U o U' => ∃ v L, o = .returned v ∧ Q0 Z p1 p2 p3 p4 h0 n0 v U'.heap L ∧ FrameEnd U o U' L room_1.cells room_1.slots) := by
  refine MetFree.of_bodySF (plainFor_of_name pn_0) hisR ?_
  intro p e s m args below meth c s₁ Bd hml0 hP hK
  obtain ⟨rfl, hZ, hh⟩ := hP
  have hx := Bd.exec
  have hby := Bd.bytes
  have hml : c.maxLocals = 9 := hml0
  have hown : s.vm.findClass "com/example/trailplan/trailplan/model/AssignmentHasResourcePinLaw" = some m.cls := findClass_of_methodNamed Bd.named
  have hnm := (name_of_methodNamed Bd.named Bd.method).1
  have X0 : Stand p l e room_1 s m #[(.int p1), (.int p2), (.int p3), (.int p4)] below meth c s₁ [] 0 0 := Stand.of_body Bd
  have e0 : s₁.heap = h0 := by rw [← hh, Bd.state]; rfl
  have N0 := Fr.nil n0
  have pre0 : ∀ t, Steps p.tables e below (s₁.setTop (mkF m 0 #[.val (.int p1), .val (.int p2), .val (.int p3), .val (.int p4), .unset, .unset, .unset, .unset, .unset] [])) t → Steps p.tables e below (s₁.setTop (entryFrame m #[(.int p1), (.int p2), (.int p3), (.int p4)] maxLocals)) t := fun t k => castTop (ef_0 m p1 p2 p3 p4) k
  obtain ⟨T5, h5, X5, e5, E5, A5, D5, -, st5⟩ := newO X0 hx hZ hown (hw _ (List.mem_of_getElem? (i := 0) rfl)) (hw _ (List.mem_of_getElem? (i := 1) rfl)) (hw _ (List.mem_of_getElem? (i := 2) rfl)) e0 (g := (mkF m 45 #[.val (.int p1), .val (.int p2), .val (.int p3), .val (.int p4), .val (.int (p4 &&& (3 : Int32))), .val (.int (0 : Int32)), .unset, .unset, .unset] [])) rfl (hb hby at_45) (by decide) (by decide)
  obtain ⟨b5, g5⟩ : ∃ z, z = h0.size := ⟨_, rfl⟩
  rw [← g5] at A5 D5 st5
  have F_task_b5 : Fld Z h5 b5 "com/example/trailplan/trailplan/model/Assignment" "task" "I" (.int (0 : Int32)) := D5 (Or.inr (hw _ (List.mem_of_getElem? (i := 10) rfl))) (ty := .int) (by decide)
  have F_resource_b5 : Fld Z h5 b5 "com/example/trailplan/trailplan/model/Assignment" "resource" "I" (.int (0 : Int32)) := D5 (Or.inr (hw _ (List.mem_of_getElem? (i := 12) rfl))) (ty := .int) (by decide)
  have F_start_b5 : Fld Z h5 b5 "com/example/trailplan/trailplan/model/Assignment" "start" "I" (.int (0 : Int32)) := D5 (Or.inr (hw _ (List.mem_of_getElem? (i := 14) rfl))) (ty := .int) (by decide)
  have E_b5 := A5
  have g_b5 : n0 ≤ b5 := Nat.le_trans Z0 (Nat.le_of_eq g5.symm)
  have sz_b5 : h0.size ≤ b5 := (Nat.le_trans (Keep.refl h0 []).1 (Nat.le_of_eq g5.symm))
  have K5 : Keep h0 h5 [] := (Keep.refl h0 []).ext E5
  obtain ⟨_, _, ⟨T6, L6, k6, n6⟩, -, X6, ⟨Lc6, hQ6, l6, y6, z6⟩, st6⟩ := X5.specialBack hx (y := (⟨"com/example/trailplan/trailplan/model/Assignment", "<init>", "(III)V"⟩ : MethodName)) rfl hown (mvT hZ (hw _ (List.mem_of_getElem? (i := 3) rfl))) (mvT hZ (hw _ (List.mem_of_getElem? (i := 4) rfl))) (mvT hZ (hw _ (List.mem_of_getElem? (i := 5) rfl))) (by decide) (backOf (W := 1) (rm1 l Z a0 hw [] b5 p1 (0 : Int32) p3 (.int (0 : Int32)) (.int (0 : Int32)) (.int (0 : Int32)) h5 n0 (Nat.le_trans Z0 K5.1) E_b5 F_task_b5 g_b5 F_resource_b5 F_start_b5) hZ (hw _ (List.mem_of_getElem? (i := 5) rfl)) (hw _ (List.mem_of_getElem? (i := 2) rfl)) (by decide) (by decide)) (g := (mkF m 53 #[.val (.int p1), .val (.int p2), .val (.int p3), .val (.int p4), .val (.int (p4 &&& (3 : Int32))), .val (.int (0 : Int32)), .unset, .unset, .unset] [(.int p3), (.int (0 : Int32)), (.int p1), (.ref b5), (.ref b5)])) rfl (by rw [hml]; rfl) (Steps.refl _) (a := b5) (argsL := [(.int p1), (.int (0 : Int32)), (.int p3)]) (rest := [(.ref b5)]) (lenOf pdx_0 rfl) rfl (by show 2 * 0 + _ ≤ _; exact Nat.le_of_eq rfl) (hb hby at_53) (fun _ _ => ⟨rfl, e5, (by decide : 1 + 0 ≤ _), (by decide : 3 + 0 ≤ _)⟩)
  dsimp only [Pt.U, Pt.locs, Pt.cells, Pt.slots] at X6 l6 y6 z6 st6 hQ6
  subst l6 y6 z6
  obtain ⟨rfl, N6q, K6, E6, F6t, F6r, F6s⟩ := hQ6
  have N6 := Fr.app N0 N6q
  have Z6 : n0 ≤ T6.heap.size := Nat.le_trans Z0 (Nat.le_trans K5.1 K6.1)
  obtain ⟨cq7, kq7, q7a, q7b, q7c⟩ := isOf hZ rfl E6
  obtain ⟨_, _, ⟨T7, L7, k7, n7⟩, -, X7, ⟨Lc7, hQ7, l7, y7, z7⟩, st7⟩ := X6.virtualBack hx (y := (⟨"com/example/trailplan/trailplan/model/Assignment", "hasResource", "()Z"⟩ : MethodName)) (z := (⟨"com/example/trailplan/trailplan/model/Assignment", "hasResource", "()Z"⟩ : MethodName)) hown (mvT hZ (hw _ (List.mem_of_getElem? (i := 15) rfl))) (mvT hZ (hw _ (List.mem_of_getElem? (i := 16) rfl))) (notFace_of_selects (args := #[]) (mvT hZ (hw _ (List.mem_of_getElem? (i := 18) rfl)))) (mvT hZ (hw _ (List.mem_of_getElem? (i := 18) rfl))) (mvT hZ (hw _ (List.mem_of_getElem? (i := 17) rfl))) (by decide) (backOf (W := 0) (rm3 l Z a0 hw [] b5 (0 : Int32) T6.heap n0 Z6 F6r) hZ (hw _ (List.mem_of_getElem? (i := 19) rfl)) (hw _ (List.mem_of_getElem? (i := 2) rfl)) (by decide) (by decide)) q7a q7c (g := (mkF m 60 #[.val (.int p1), .val (.int p2), .val (.int p3), .val (.int p4), .val (.int (p4 &&& (3 : Int32))), .val (.int (0 : Int32)), .val (.ref b5), .unset, .unset] [(.ref b5)])) rfl (by rw [hml]; rfl) (Steps.refl _) (argsL := []) (rest := []) (lenOf pdx_1 rfl) rfl (by show 2 * 0 + _ ≤ _; exact Nat.le_of_eq rfl) (hb hby at_60) (fun _ _ => ⟨rfl, rfl, (by decide : 1 + 0 ≤ _), (by decide : 3 + 0 ≤ _)⟩)
  dsimp only [Pt.U, Pt.locs, Pt.cells, Pt.slots] at X7 l7 y7 z7 st7 hQ7
  subst l7 y7 z7
  obtain ⟨rfl, N7q, e7⟩ := hQ7
  have N7 := Fr.app N6 N7q
  have Z7 : n0 ≤ T7.heap.size := by rw [e7]; exact Z6
  obtain ⟨cq8, kq8, q8a, q8b, q8c⟩ := isOf hZ rfl (show Exa Z T7.heap b5 _ by rw [e7]; exact E6)
  obtain ⟨_, _, ⟨T8, L8, k8, n8⟩, -, X8, ⟨Lc8, hQ8, l8, y8, z8⟩, st8⟩ := X7.virtualBack hx (y := (⟨"com/example/trailplan/trailplan/model/Assignment", "resource", "()I"⟩ : MethodName)) (z := (⟨"com/example/trailplan/trailplan/model/Assignment", "resource", "()I"⟩ : MethodName)) hown (mvT hZ (hw _ (List.mem_of_getElem? (i := 20) rfl))) (mvT hZ (hw _ (List.mem_of_getElem? (i := 21) rfl))) (notFace_of_selects (args := #[]) (mvT hZ (hw _ (List.mem_of_getElem? (i := 23) rfl)))) (mvT hZ (hw _ (List.mem_of_getElem? (i := 23) rfl))) (mvT hZ (hw _ (List.mem_of_getElem? (i := 22) rfl))) (by decide) (backOf (W := 0) (rm4 l Z a0 hw [] b5 (0 : Int32) T7.heap n0 Z7 (by rw [e7]; exact F6r)) hZ (hw _ (List.mem_of_getElem? (i := 24) rfl)) (hw _ (List.mem_of_getElem? (i := 2) rfl)) (by decide) (by decide)) q8a q8c (g := (mkF m 91 #[.val (.int p1), .val (.int p2), .val (.int p3), .val (.int p4), .val (.int (p4 &&& (3 : Int32))), .val (.int (0 : Int32)), .val (.ref b5), .val (.int (own_r3 (0 : Int32))), .val (.int (1 : Int32))] [(.ref b5)])) rfl (by rw [hml]; rfl) (Steps.refl _) (argsL := []) (rest := []) (lenOf pdx_2 rfl) rfl (by show 2 * 0 + _ ≤ _; exact Nat.le_of_eq rfl) (hb hby at_91) (fun _ _ => ⟨rfl, rfl, (by decide : 1 + 0 ≤ _), (by decide : 3 + 0 ≤ _)⟩)
  dsimp only [Pt.U, Pt.locs, Pt.cells, Pt.slots] at X8 l8 y8 z8 st8 hQ8
  subst l8 y8 z8
  obtain ⟨rfl, N8q, e8⟩ := hQ8
  have N8 := Fr.app N7 N8q
  have Z8 : n0 ≤ T8.heap.size := by rw [e8]; exact Z7
  obtain ⟨cq9, kq9, q9a, q9b, q9c⟩ := isOf hZ rfl (show Exa Z T8.heap b5 _ by rw [e8, e7]; exact E6)
  obtain ⟨_, _, ⟨T9, L9, k9, n9⟩, -, X9, ⟨Lc9, hQ9, l9, y9, z9⟩, st9⟩ := X8.virtualBack hx (y := (⟨"com/example/trailplan/trailplan/model/Assignment", "task", "()I"⟩ : MethodName)) (z := (⟨"com/example/trailplan/trailplan/model/Assignment", "task", "()I"⟩ : MethodName)) hown (mvT hZ (hw _ (List.mem_of_getElem? (i := 25) rfl))) (mvT hZ (hw _ (List.mem_of_getElem? (i := 26) rfl))) (notFace_of_selects (args := #[]) (mvT hZ (hw _ (List.mem_of_getElem? (i := 28) rfl)))) (mvT hZ (hw _ (List.mem_of_getElem? (i := 28) rfl))) (mvT hZ (hw _ (List.mem_of_getElem? (i := 27) rfl))) (by decide) (backOf (W := 0) (rm5 l Z a0 hw [] b5 p1 T8.heap n0 Z8 (by rw [e8, e7]; exact F6t)) hZ (hw _ (List.mem_of_getElem? (i := 29) rfl)) (hw _ (List.mem_of_getElem? (i := 2) rfl)) (by decide) (by decide)) q9a q9c (g := (mkF m 103 #[.val (.int p1), .val (.int p2), .val (.int p3), .val (.int p4), .val (.int (p4 &&& (3 : Int32))), .val (.int (0 : Int32)), .val (.ref b5), .val (.int (own_r3 (0 : Int32))), .val (.int (1 : Int32))] [(.ref b5)])) rfl (by rw [hml]; rfl) (Steps.refl _) (argsL := []) (rest := []) (lenOf pdx_2 rfl) rfl (by show 2 * 0 + _ ≤ _; exact Nat.le_of_eq rfl) (hb hby at_103) (fun _ _ => ⟨rfl, rfl, (by decide : 1 + 0 ≤ _), (by decide : 3 + 0 ≤ _)⟩)
  dsimp only [Pt.U, Pt.locs, Pt.cells, Pt.slots] at X9 l9 y9 z9 st9 hQ9
  subst l9 y9 z9
  obtain ⟨rfl, N9q, e9⟩ := hQ9
  have N9 := Fr.app N8 N9q
  have Z9 : n0 ≤ T9.heap.size := by rw [e9]; exact Z8
  obtain ⟨cq10, kq10, q10a, q10b, q10c⟩ := isOf hZ rfl (show Exa Z T9.heap b5 _ by rw [e9, e8, e7]; exact E6)
  obtain ⟨_, _, ⟨T10, L10, k10, n10⟩, -, X10, ⟨Lc10, hQ10, l10, y10, z10⟩, st10⟩ := X9.virtualBack hx (y := (⟨"com/example/trailplan/trailplan/model/Assignment", "start", "()I"⟩ : MethodName)) (z := (⟨"com/example/trailplan/trailplan/model/Assignment", "start", "()I"⟩ : MethodName)) hown (mvT hZ (hw _ (List.mem_of_getElem? (i := 30) rfl))) (mvT hZ (hw _ (List.mem_of_getElem? (i := 31) rfl))) (notFace_of_selects (args := #[]) (mvT hZ (hw _ (List.mem_of_getElem? (i := 33) rfl)))) (mvT hZ (hw _ (List.mem_of_getElem? (i := 33) rfl))) (mvT hZ (hw _ (List.mem_of_getElem? (i := 32) rfl))) (by decide) (backOf (W := 0) (rm6 l Z a0 hw [] b5 p3 T9.heap n0 Z9 (by rw [e9, e8, e7]; exact F6s)) hZ (hw _ (List.mem_of_getElem? (i := 34) rfl)) (hw _ (List.mem_of_getElem? (i := 2) rfl)) (by decide) (by decide)) q10a q10c (g := (mkF m 114 #[.val (.int p1), .val (.int p2), .val (.int p3), .val (.int p4), .val (.int (p4 &&& (3 : Int32))), .val (.int (0 : Int32)), .val (.ref b5), .val (.int (own_r3 (0 : Int32))), .val (.int (1 : Int32))] [(.ref b5)])) rfl (by rw [hml]; rfl) (Steps.refl _) (argsL := []) (rest := []) (lenOf pdx_2 rfl) rfl (by show 2 * 0 + _ ≤ _; exact Nat.le_of_eq rfl) (hb hby at_114) (fun _ _ => ⟨rfl, rfl, (by decide : 1 + 0 ≤ _), (by decide : 3 + 0 ≤ _)⟩)
  dsimp only [Pt.U, Pt.locs, Pt.cells, Pt.slots] at X10 l10 y10 z10 st10 hQ10
  subst l10 y10 z10
  obtain ⟨rfl, N10q, e10⟩ := hQ10
  have N10 := Fr.app N9 N10q
  obtain ⟨fs, hr, hrun, hended, hW, hsame⟩ := X10.leave (v := some (.int (1 : Int32))) (fun h => by rw [Bd.returns] at h; cases h)
  refine ⟨_, _, pre0 _ ?_, hrun, hended, _, _, rfl, ?_, ⟨_, rfl⟩, hW, hsame.mono (by decide) (by decide)⟩
  · show Steps p.tables e below (s₁.setTop (mkF m 0 #[.val (.int p1), .val (.int p2), .val (.int p3), .val (.int p4), .unset, .unset, .unset, .unset, .unset] [])) _
    refine XS.iloadN X0.here hx rfl (hb hby at_0) rfl ?_
    show Steps p.tables e below (s₁.setTop (mkF m 1 #[.val (.int p1), .val (.int p2), .val (.int p3), .val (.int p4), .unset, .unset, .unset, .unset, .unset] [(.int p4)])) _
    refine XS.iconst X0.here hx rfl (hb hby at_1) ?_
    show Steps p.tables e below (s₁.setTop (mkF m 2 #[.val (.int p1), .val (.int p2), .val (.int p3), .val (.int p4), .unset, .unset, .unset, .unset, .unset] [(.int (3 : Int32)), (.int p4)])) _
    refine XS.iand X0.here hx rfl (hb hby at_2) rfl ?_
    show Steps p.tables e below (s₁.setTop (mkF m 3 #[.val (.int p1), .val (.int p2), .val (.int p3), .val (.int p4), .unset, .unset, .unset, .unset, .unset] [(.int (p4 &&& (3 : Int32)))])) _
    refine XS.istore X0.here hx rfl (hb hby at_3) rfl (l' := #[.val (.int p1), .val (.int p2), .val (.int p3), .val (.int p4), .val (.int (p4 &&& (3 : Int32))), .unset, .unset, .unset, .unset]) rfl ?_
    show Steps p.tables e below (s₁.setTop (mkF m 5 #[.val (.int p1), .val (.int p2), .val (.int p3), .val (.int p4), .val (.int (p4 &&& (3 : Int32))), .unset, .unset, .unset, .unset] [])) _
    refine XS.iload X0.here hx rfl (hb hby at_5) rfl ?_
    show Steps p.tables e below (s₁.setTop (mkF m 7 #[.val (.int p1), .val (.int p2), .val (.int p3), .val (.int p4), .val (.int (p4 &&& (3 : Int32))), .unset, .unset, .unset, .unset] [(.int (p4 &&& (3 : Int32)))])) _
    refine XS.iconst X0.here hx rfl (hb hby at_7) ?_
    show Steps p.tables e below (s₁.setTop (mkF m 8 #[.val (.int p1), .val (.int p2), .val (.int p3), .val (.int p4), .val (.int (p4 &&& (3 : Int32))), .unset, .unset, .unset, .unset] [(.int (1 : Int32)), (.int (p4 &&& (3 : Int32)))])) _
    refine XS.icmpYes X0.here hx rfl (pc0 := 8) (pc' := 17) rfl (hb hby at_8) rfl (feq hc8).2 (by decide) (by decide) ?_
    show Steps p.tables e below (s₁.setTop (mkF m 17 #[.val (.int p1), .val (.int p2), .val (.int p3), .val (.int p4), .val (.int (p4 &&& (3 : Int32))), .unset, .unset, .unset, .unset] [])) _
    refine XS.iload X0.here hx rfl (hb hby at_17) rfl ?_
    show Steps p.tables e below (s₁.setTop (mkF m 19 #[.val (.int p1), .val (.int p2), .val (.int p3), .val (.int p4), .val (.int (p4 &&& (3 : Int32))), .unset, .unset, .unset, .unset] [(.int (p4 &&& (3 : Int32)))])) _
    refine XS.iconst X0.here hx rfl (hb hby at_19) ?_
    show Steps p.tables e below (s₁.setTop (mkF m 20 #[.val (.int p1), .val (.int p2), .val (.int p3), .val (.int p4), .val (.int (p4 &&& (3 : Int32))), .unset, .unset, .unset, .unset] [(.int (2 : Int32)), (.int (p4 &&& (3 : Int32)))])) _
    refine XS.icmpYes X0.here hx rfl (pc0 := 20) (pc' := 30) rfl (hb hby at_20) rfl (feq hc20).2 (by decide) (by decide) ?_
    show Steps p.tables e below (s₁.setTop (mkF m 30 #[.val (.int p1), .val (.int p2), .val (.int p3), .val (.int p4), .val (.int (p4 &&& (3 : Int32))), .unset, .unset, .unset, .unset] [])) _
    refine XS.iload X0.here hx rfl (hb hby at_30) rfl ?_
    show Steps p.tables e below (s₁.setTop (mkF m 32 #[.val (.int p1), .val (.int p2), .val (.int p3), .val (.int p4), .val (.int (p4 &&& (3 : Int32))), .unset, .unset, .unset, .unset] [(.int (p4 &&& (3 : Int32)))])) _
    refine XS.iconst X0.here hx rfl (hb hby at_32) ?_
    show Steps p.tables e below (s₁.setTop (mkF m 33 #[.val (.int p1), .val (.int p2), .val (.int p3), .val (.int p4), .val (.int (p4 &&& (3 : Int32))), .unset, .unset, .unset, .unset] [(.int (3 : Int32)), (.int (p4 &&& (3 : Int32)))])) _
    refine XS.icmpNo X0.here hx rfl (hb hby at_33) rfl (teq hc33).2 ?_
    show Steps p.tables e below (s₁.setTop (mkF m 36 #[.val (.int p1), .val (.int p2), .val (.int p3), .val (.int p4), .val (.int (p4 &&& (3 : Int32))), .unset, .unset, .unset, .unset] [])) _
    refine XS.iconst X0.here hx rfl (hb hby at_36) ?_
    show Steps p.tables e below (s₁.setTop (mkF m 37 #[.val (.int p1), .val (.int p2), .val (.int p3), .val (.int p4), .val (.int (p4 &&& (3 : Int32))), .unset, .unset, .unset, .unset] [(.int (0 : Int32))])) _
    refine XS.istore X0.here hx rfl (hb hby at_37) rfl (l' := #[.val (.int p1), .val (.int p2), .val (.int p3), .val (.int p4), .val (.int (p4 &&& (3 : Int32))), .val (.int (0 : Int32)), .unset, .unset, .unset]) rfl ?_
    show Steps p.tables e below (s₁.setTop (mkF m 39 #[.val (.int p1), .val (.int p2), .val (.int p3), .val (.int p4), .val (.int (p4 &&& (3 : Int32))), .val (.int (0 : Int32)), .unset, .unset, .unset] [])) _
    refine XS.goto X0.here hx rfl (pc0 := 39) (pc' := 45) rfl (hb hby at_39) (by decide) (by decide) ?_
    show Steps p.tables e below (s₁.setTop (mkF m 45 #[.val (.int p1), .val (.int p2), .val (.int p3), .val (.int p4), .val (.int (p4 &&& (3 : Int32))), .val (.int (0 : Int32)), .unset, .unset, .unset] [])) _
    refine st5 _ ?_
    show Steps p.tables e below (T5.setTop (mkF m 48 #[.val (.int p1), .val (.int p2), .val (.int p3), .val (.int p4), .val (.int (p4 &&& (3 : Int32))), .val (.int (0 : Int32)), .unset, .unset, .unset] [(.ref b5)])) _
    refine XS.dup X5.here hx rfl (hb hby at_48) rfl rfl ?_
    show Steps p.tables e below (T5.setTop (mkF m 49 #[.val (.int p1), .val (.int p2), .val (.int p3), .val (.int p4), .val (.int (p4 &&& (3 : Int32))), .val (.int (0 : Int32)), .unset, .unset, .unset] [(.ref b5), (.ref b5)])) _
    refine XS.iloadN X5.here hx rfl (hb hby at_49) rfl ?_
    show Steps p.tables e below (T5.setTop (mkF m 50 #[.val (.int p1), .val (.int p2), .val (.int p3), .val (.int p4), .val (.int (p4 &&& (3 : Int32))), .val (.int (0 : Int32)), .unset, .unset, .unset] [(.int p1), (.ref b5), (.ref b5)])) _
    refine XS.iload X5.here hx rfl (hb hby at_50) rfl ?_
    show Steps p.tables e below (T5.setTop (mkF m 52 #[.val (.int p1), .val (.int p2), .val (.int p3), .val (.int p4), .val (.int (p4 &&& (3 : Int32))), .val (.int (0 : Int32)), .unset, .unset, .unset] [(.int (0 : Int32)), (.int p1), (.ref b5), (.ref b5)])) _
    refine XS.iloadN X5.here hx rfl (hb hby at_52) rfl ?_
    show Steps p.tables e below (T5.setTop (mkF m 53 #[.val (.int p1), .val (.int p2), .val (.int p3), .val (.int p4), .val (.int (p4 &&& (3 : Int32))), .val (.int (0 : Int32)), .unset, .unset, .unset] [(.int p3), (.int (0 : Int32)), (.int p1), (.ref b5), (.ref b5)])) _
    refine st6.trans ?_
    show Steps p.tables e below (T6.setTop (mkF m 56 #[.val (.int p1), .val (.int p2), .val (.int p3), .val (.int p4), .val (.int (p4 &&& (3 : Int32))), .val (.int (0 : Int32)), .unset, .unset, .unset] [(.ref b5)])) _
    refine XS.astore X6.here hx rfl (hb hby at_56) rfl rfl (l' := #[.val (.int p1), .val (.int p2), .val (.int p3), .val (.int p4), .val (.int (p4 &&& (3 : Int32))), .val (.int (0 : Int32)), .val (.ref b5), .unset, .unset]) rfl ?_
    show Steps p.tables e below (T6.setTop (mkF m 58 #[.val (.int p1), .val (.int p2), .val (.int p3), .val (.int p4), .val (.int (p4 &&& (3 : Int32))), .val (.int (0 : Int32)), .val (.ref b5), .unset, .unset] [])) _
    refine XS.aload X6.here hx rfl (hb hby at_58) rfl rfl ?_
    show Steps p.tables e below (T6.setTop (mkF m 60 #[.val (.int p1), .val (.int p2), .val (.int p3), .val (.int p4), .val (.int (p4 &&& (3 : Int32))), .val (.int (0 : Int32)), .val (.ref b5), .unset, .unset] [(.ref b5)])) _
    refine st7.trans ?_
    show Steps p.tables e below (T7.setTop (mkF m 63 #[.val (.int p1), .val (.int p2), .val (.int p3), .val (.int p4), .val (.int (p4 &&& (3 : Int32))), .val (.int (0 : Int32)), .val (.ref b5), .unset, .unset] [(.int (own_r3 (0 : Int32)))])) _
    refine XS.istore X7.here hx rfl (hb hby at_63) rfl (l' := #[.val (.int p1), .val (.int p2), .val (.int p3), .val (.int p4), .val (.int (p4 &&& (3 : Int32))), .val (.int (0 : Int32)), .val (.ref b5), .val (.int (own_r3 (0 : Int32))), .unset]) rfl ?_
    show Steps p.tables e below (T7.setTop (mkF m 65 #[.val (.int p1), .val (.int p2), .val (.int p3), .val (.int p4), .val (.int (p4 &&& (3 : Int32))), .val (.int (0 : Int32)), .val (.ref b5), .val (.int (own_r3 (0 : Int32))), .unset] [])) _
    refine XS.iload X7.here hx rfl (hb hby at_65) rfl ?_
    show Steps p.tables e below (T7.setTop (mkF m 67 #[.val (.int p1), .val (.int p2), .val (.int p3), .val (.int p4), .val (.int (p4 &&& (3 : Int32))), .val (.int (0 : Int32)), .val (.ref b5), .val (.int (own_r3 (0 : Int32))), .unset] [(.int (0 : Int32))])) _
    refine XS.iconst X7.here hx rfl (hb hby at_67) ?_
    show Steps p.tables e below (T7.setTop (mkF m 68 #[.val (.int p1), .val (.int p2), .val (.int p3), .val (.int p4), .val (.int (p4 &&& (3 : Int32))), .val (.int (0 : Int32)), .val (.ref b5), .val (.int (own_r3 (0 : Int32))), .unset] [(.int (-1 : Int32)), (.int (0 : Int32))])) _
    refine XS.icmpYes X7.here hx rfl (pc0 := 68) (pc' := 77) rfl (hb hby at_68) rfl (feq hc68).2 (by decide) (by decide) ?_
    show Steps p.tables e below (T7.setTop (mkF m 77 #[.val (.int p1), .val (.int p2), .val (.int p3), .val (.int p4), .val (.int (p4 &&& (3 : Int32))), .val (.int (0 : Int32)), .val (.ref b5), .val (.int (own_r3 (0 : Int32))), .unset] [])) _
    refine XS.iconst X7.here hx rfl (hb hby at_77) ?_
    show Steps p.tables e below (T7.setTop (mkF m 78 #[.val (.int p1), .val (.int p2), .val (.int p3), .val (.int p4), .val (.int (p4 &&& (3 : Int32))), .val (.int (0 : Int32)), .val (.ref b5), .val (.int (own_r3 (0 : Int32))), .unset] [(.int (1 : Int32))])) _
    refine XS.istore X7.here hx rfl (hb hby at_78) rfl (l' := #[.val (.int p1), .val (.int p2), .val (.int p3), .val (.int p4), .val (.int (p4 &&& (3 : Int32))), .val (.int (0 : Int32)), .val (.ref b5), .val (.int (own_r3 (0 : Int32))), .val (.int (1 : Int32))]) rfl ?_
    show Steps p.tables e below (T7.setTop (mkF m 80 #[.val (.int p1), .val (.int p2), .val (.int p3), .val (.int p4), .val (.int (p4 &&& (3 : Int32))), .val (.int (0 : Int32)), .val (.ref b5), .val (.int (own_r3 (0 : Int32))), .val (.int (1 : Int32))] [])) _
    refine XS.iload X7.here hx rfl (hb hby at_80) rfl ?_
    show Steps p.tables e below (T7.setTop (mkF m 82 #[.val (.int p1), .val (.int p2), .val (.int p3), .val (.int p4), .val (.int (p4 &&& (3 : Int32))), .val (.int (0 : Int32)), .val (.ref b5), .val (.int (own_r3 (0 : Int32))), .val (.int (1 : Int32))] [(.int (own_r3 (0 : Int32)))])) _
    refine XS.iload X7.here hx rfl (hb hby at_82) rfl ?_
    show Steps p.tables e below (T7.setTop (mkF m 84 #[.val (.int p1), .val (.int p2), .val (.int p3), .val (.int p4), .val (.int (p4 &&& (3 : Int32))), .val (.int (0 : Int32)), .val (.ref b5), .val (.int (own_r3 (0 : Int32))), .val (.int (1 : Int32))] [(.int (1 : Int32)), (.int (own_r3 (0 : Int32)))])) _
    refine XS.icmpYes X7.here hx rfl (pc0 := 84) (pc' := 89) rfl (hb hby at_84) rfl (teq (by decide : (own_r3 (0 : Int32)) = (1 : Int32))).1 (by decide) (by decide) ?_
    show Steps p.tables e below (T7.setTop (mkF m 89 #[.val (.int p1), .val (.int p2), .val (.int p3), .val (.int p4), .val (.int (p4 &&& (3 : Int32))), .val (.int (0 : Int32)), .val (.ref b5), .val (.int (own_r3 (0 : Int32))), .val (.int (1 : Int32))] [])) _
    refine XS.aload X7.here hx rfl (hb hby at_89) rfl rfl ?_
    show Steps p.tables e below (T7.setTop (mkF m 91 #[.val (.int p1), .val (.int p2), .val (.int p3), .val (.int p4), .val (.int (p4 &&& (3 : Int32))), .val (.int (0 : Int32)), .val (.ref b5), .val (.int (own_r3 (0 : Int32))), .val (.int (1 : Int32))] [(.ref b5)])) _
    refine st8.trans ?_
    show Steps p.tables e below (T8.setTop (mkF m 94 #[.val (.int p1), .val (.int p2), .val (.int p3), .val (.int p4), .val (.int (p4 &&& (3 : Int32))), .val (.int (0 : Int32)), .val (.ref b5), .val (.int (own_r3 (0 : Int32))), .val (.int (1 : Int32))] [(.int (0 : Int32))])) _
    refine XS.iload X8.here hx rfl (hb hby at_94) rfl ?_
    show Steps p.tables e below (T8.setTop (mkF m 96 #[.val (.int p1), .val (.int p2), .val (.int p3), .val (.int p4), .val (.int (p4 &&& (3 : Int32))), .val (.int (0 : Int32)), .val (.ref b5), .val (.int (own_r3 (0 : Int32))), .val (.int (1 : Int32))] [(.int (0 : Int32)), (.int (0 : Int32))])) _
    refine XS.icmpYes X8.here hx rfl (pc0 := 96) (pc' := 101) rfl (hb hby at_96) rfl (teq (rfl : (0 : Int32) = (0 : Int32))).1 (by decide) (by decide) ?_
    show Steps p.tables e below (T8.setTop (mkF m 101 #[.val (.int p1), .val (.int p2), .val (.int p3), .val (.int p4), .val (.int (p4 &&& (3 : Int32))), .val (.int (0 : Int32)), .val (.ref b5), .val (.int (own_r3 (0 : Int32))), .val (.int (1 : Int32))] [])) _
    refine XS.aload X8.here hx rfl (hb hby at_101) rfl rfl ?_
    show Steps p.tables e below (T8.setTop (mkF m 103 #[.val (.int p1), .val (.int p2), .val (.int p3), .val (.int p4), .val (.int (p4 &&& (3 : Int32))), .val (.int (0 : Int32)), .val (.ref b5), .val (.int (own_r3 (0 : Int32))), .val (.int (1 : Int32))] [(.ref b5)])) _
    refine st9.trans ?_
    show Steps p.tables e below (T9.setTop (mkF m 106 #[.val (.int p1), .val (.int p2), .val (.int p3), .val (.int p4), .val (.int (p4 &&& (3 : Int32))), .val (.int (0 : Int32)), .val (.ref b5), .val (.int (own_r3 (0 : Int32))), .val (.int (1 : Int32))] [(.int p1)])) _
    refine XS.iloadN X9.here hx rfl (hb hby at_106) rfl ?_
    show Steps p.tables e below (T9.setTop (mkF m 107 #[.val (.int p1), .val (.int p2), .val (.int p3), .val (.int p4), .val (.int (p4 &&& (3 : Int32))), .val (.int (0 : Int32)), .val (.ref b5), .val (.int (own_r3 (0 : Int32))), .val (.int (1 : Int32))] [(.int p1), (.int p1)])) _
    refine XS.icmpYes X9.here hx rfl (pc0 := 107) (pc' := 112) rfl (hb hby at_107) rfl (teq (rfl : p1 = p1)).1 (by decide) (by decide) ?_
    show Steps p.tables e below (T9.setTop (mkF m 112 #[.val (.int p1), .val (.int p2), .val (.int p3), .val (.int p4), .val (.int (p4 &&& (3 : Int32))), .val (.int (0 : Int32)), .val (.ref b5), .val (.int (own_r3 (0 : Int32))), .val (.int (1 : Int32))] [])) _
    refine XS.aload X9.here hx rfl (hb hby at_112) rfl rfl ?_
    show Steps p.tables e below (T9.setTop (mkF m 114 #[.val (.int p1), .val (.int p2), .val (.int p3), .val (.int p4), .val (.int (p4 &&& (3 : Int32))), .val (.int (0 : Int32)), .val (.ref b5), .val (.int (own_r3 (0 : Int32))), .val (.int (1 : Int32))] [(.ref b5)])) _
    refine st10.trans ?_
    show Steps p.tables e below (T10.setTop (mkF m 117 #[.val (.int p1), .val (.int p2), .val (.int p3), .val (.int p4), .val (.int (p4 &&& (3 : Int32))), .val (.int (0 : Int32)), .val (.ref b5), .val (.int (own_r3 (0 : Int32))), .val (.int (1 : Int32))] [(.int p3)])) _
    refine XS.iloadN X10.here hx rfl (hb hby at_117) rfl ?_
    show Steps p.tables e below (T10.setTop (mkF m 118 #[.val (.int p1), .val (.int p2), .val (.int p3), .val (.int p4), .val (.int (p4 &&& (3 : Int32))), .val (.int (0 : Int32)), .val (.ref b5), .val (.int (own_r3 (0 : Int32))), .val (.int (1 : Int32))] [(.int p3), (.int p3)])) _
    refine XS.icmpNo X10.here hx rfl (hb hby at_118) rfl (teq (rfl : p3 = p3)).2 ?_
    show Steps p.tables e below (T10.setTop (mkF m 121 #[.val (.int p1), .val (.int p2), .val (.int p3), .val (.int p4), .val (.int (p4 &&& (3 : Int32))), .val (.int (0 : Int32)), .val (.ref b5), .val (.int (own_r3 (0 : Int32))), .val (.int (1 : Int32))] [])) _
    refine XS.iconst X10.here hx rfl (hb hby at_121) ?_
    show Steps p.tables e below (T10.setTop (mkF m 122 #[.val (.int p1), .val (.int p2), .val (.int p3), .val (.int p4), .val (.int (p4 &&& (3 : Int32))), .val (.int (0 : Int32)), .val (.ref b5), .val (.int (own_r3 (0 : Int32))), .val (.int (1 : Int32))] [(.int (1 : Int32))])) _
    refine XS.goto X10.here hx rfl (pc0 := 122) (pc' := 126) rfl (hb hby at_122) (by decide) (by decide) ?_
    show Steps p.tables e below (T10.setTop (mkF m 126 #[.val (.int p1), .val (.int p2), .val (.int p3), .val (.int p4), .val (.int (p4 &&& (3 : Int32))), .val (.int (0 : Int32)), .val (.ref b5), .val (.int (own_r3 (0 : Int32))), .val (.int (1 : Int32))] [(.int (1 : Int32))])) _
    exact retN X10 hx (t := .boolean) Bd.returns (by simp) (hb hby at_126) hr
  · show Q0 Z p1 p2 p3 p4 h0 n0 _ T10.heap _
    exact ⟨rfl, N10⟩
set_option maxRecDepth 65536 in
set_option maxHeartbeats 40000000 in
theorem rm0_d (l : Launch) (Z : State) (a0 : Array Value) (hw : ∀ d ∈ tables_1, d.before a0 Z = true) (ws : List Jvm.Cond) (p1 : Int32) (p2 : Int32) (p3 : Int32) (p4 : Int32) (h0 : Heap) (n0 : Nat) (Z0 : n0 ≤ h0.size) (hc8 : ¬ ((p4 &&& (3 : Int32)) = (1 : Int32))) (hc20 : ¬ ((p4 &&& (3 : Int32)) = (2 : Int32))) (hc33 : ¬ ((p4 &&& (3 : Int32)) = (3 : Int32))) (hc68 : p2 = (-1 : Int32)) :
    MetFree l x (head1 (Jvm.Cond.code x code maxLocals ret :: ws) room_1) (fun a U => a = #[(.int p1), (.int p2), (.int p3), (.int p4)] ∧ Z.Warmed39 U.vm ∧ U.heap = h0) (fun _ _ _ _ _ => True) (fun _ U o U' => ∃ v L, o = .returned v ∧ Q0 Z p1 p2 p3 p4 h0 n0 v U'.heap L ∧ FrameEnd U o U' L room_1.cells room_1.slots) := by
  refine MetFree.of_bodySF (plainFor_of_name pn_0) hisR ?_
  intro p e s m args below meth c s₁ Bd hml0 hP hK
  obtain ⟨rfl, hZ, hh⟩ := hP
  have hx := Bd.exec
  have hby := Bd.bytes
  have hml : c.maxLocals = 9 := hml0
  have hown : s.vm.findClass "com/example/trailplan/trailplan/model/AssignmentHasResourcePinLaw" = some m.cls := findClass_of_methodNamed Bd.named
  have hnm := (name_of_methodNamed Bd.named Bd.method).1
  have X0 : Stand p l e room_1 s m #[(.int p1), (.int p2), (.int p3), (.int p4)] below meth c s₁ [] 0 0 := Stand.of_body Bd
  have e0 : s₁.heap = h0 := by rw [← hh, Bd.state]; rfl
  have N0 := Fr.nil n0
  have pre0 : ∀ t, Steps p.tables e below (s₁.setTop (mkF m 0 #[.val (.int p1), .val (.int p2), .val (.int p3), .val (.int p4), .unset, .unset, .unset, .unset, .unset] [])) t → Steps p.tables e below (s₁.setTop (entryFrame m #[(.int p1), (.int p2), (.int p3), (.int p4)] maxLocals)) t := fun t k => castTop (ef_0 m p1 p2 p3 p4) k
  obtain ⟨T5, h5, X5, e5, E5, A5, D5, -, st5⟩ := newO X0 hx hZ hown (hw _ (List.mem_of_getElem? (i := 0) rfl)) (hw _ (List.mem_of_getElem? (i := 1) rfl)) (hw _ (List.mem_of_getElem? (i := 2) rfl)) e0 (g := (mkF m 45 #[.val (.int p1), .val (.int p2), .val (.int p3), .val (.int p4), .val (.int (p4 &&& (3 : Int32))), .val (.int p2), .unset, .unset, .unset] [])) rfl (hb hby at_45) (by decide) (by decide)
  obtain ⟨b5, g5⟩ : ∃ z, z = h0.size := ⟨_, rfl⟩
  rw [← g5] at A5 D5 st5
  have F_task_b5 : Fld Z h5 b5 "com/example/trailplan/trailplan/model/Assignment" "task" "I" (.int (0 : Int32)) := D5 (Or.inr (hw _ (List.mem_of_getElem? (i := 10) rfl))) (ty := .int) (by decide)
  have F_resource_b5 : Fld Z h5 b5 "com/example/trailplan/trailplan/model/Assignment" "resource" "I" (.int (0 : Int32)) := D5 (Or.inr (hw _ (List.mem_of_getElem? (i := 12) rfl))) (ty := .int) (by decide)
  have F_start_b5 : Fld Z h5 b5 "com/example/trailplan/trailplan/model/Assignment" "start" "I" (.int (0 : Int32)) := D5 (Or.inr (hw _ (List.mem_of_getElem? (i := 14) rfl))) (ty := .int) (by decide)
  have E_b5 := A5
  have g_b5 : n0 ≤ b5 := Nat.le_trans Z0 (Nat.le_of_eq g5.symm)
  have sz_b5 : h0.size ≤ b5 := (Nat.le_trans (Keep.refl h0 []).1 (Nat.le_of_eq g5.symm))
  have K5 : Keep h0 h5 [] := (Keep.refl h0 []).ext E5
  obtain ⟨_, _, ⟨T6, L6, k6, n6⟩, -, X6, ⟨Lc6, hQ6, l6, y6, z6⟩, st6⟩ := X5.specialBack hx (y := (⟨"com/example/trailplan/trailplan/model/Assignment", "<init>", "(III)V"⟩ : MethodName)) rfl hown (mvT hZ (hw _ (List.mem_of_getElem? (i := 3) rfl))) (mvT hZ (hw _ (List.mem_of_getElem? (i := 4) rfl))) (mvT hZ (hw _ (List.mem_of_getElem? (i := 5) rfl))) (by decide) (backOf (W := 1) (rm1 l Z a0 hw [] b5 p1 p2 p3 (.int (0 : Int32)) (.int (0 : Int32)) (.int (0 : Int32)) h5 n0 (Nat.le_trans Z0 K5.1) E_b5 F_task_b5 g_b5 F_resource_b5 F_start_b5) hZ (hw _ (List.mem_of_getElem? (i := 5) rfl)) (hw _ (List.mem_of_getElem? (i := 2) rfl)) (by decide) (by decide)) (g := (mkF m 53 #[.val (.int p1), .val (.int p2), .val (.int p3), .val (.int p4), .val (.int (p4 &&& (3 : Int32))), .val (.int p2), .unset, .unset, .unset] [(.int p3), (.int p2), (.int p1), (.ref b5), (.ref b5)])) rfl (by rw [hml]; rfl) (Steps.refl _) (a := b5) (argsL := [(.int p1), (.int p2), (.int p3)]) (rest := [(.ref b5)]) (lenOf pdx_0 rfl) rfl (by show 2 * 0 + _ ≤ _; exact Nat.le_of_eq rfl) (hb hby at_53) (fun _ _ => ⟨rfl, e5, (by decide : 1 + 0 ≤ _), (by decide : 3 + 0 ≤ _)⟩)
  dsimp only [Pt.U, Pt.locs, Pt.cells, Pt.slots] at X6 l6 y6 z6 st6 hQ6
  subst l6 y6 z6
  obtain ⟨rfl, N6q, K6, E6, F6t, F6r, F6s⟩ := hQ6
  have N6 := Fr.app N0 N6q
  have Z6 : n0 ≤ T6.heap.size := Nat.le_trans Z0 (Nat.le_trans K5.1 K6.1)
  obtain ⟨cq7, kq7, q7a, q7b, q7c⟩ := isOf hZ rfl E6
  obtain ⟨_, _, ⟨T7, L7, k7, n7⟩, -, X7, ⟨Lc7, hQ7, l7, y7, z7⟩, st7⟩ := X6.virtualBack hx (y := (⟨"com/example/trailplan/trailplan/model/Assignment", "hasResource", "()Z"⟩ : MethodName)) (z := (⟨"com/example/trailplan/trailplan/model/Assignment", "hasResource", "()Z"⟩ : MethodName)) hown (mvT hZ (hw _ (List.mem_of_getElem? (i := 15) rfl))) (mvT hZ (hw _ (List.mem_of_getElem? (i := 16) rfl))) (notFace_of_selects (args := #[]) (mvT hZ (hw _ (List.mem_of_getElem? (i := 18) rfl)))) (mvT hZ (hw _ (List.mem_of_getElem? (i := 18) rfl))) (mvT hZ (hw _ (List.mem_of_getElem? (i := 17) rfl))) (by decide) (backOf (W := 0) (rm3 l Z a0 hw [] b5 p2 T6.heap n0 Z6 F6r) hZ (hw _ (List.mem_of_getElem? (i := 19) rfl)) (hw _ (List.mem_of_getElem? (i := 2) rfl)) (by decide) (by decide)) q7a q7c (g := (mkF m 60 #[.val (.int p1), .val (.int p2), .val (.int p3), .val (.int p4), .val (.int (p4 &&& (3 : Int32))), .val (.int p2), .val (.ref b5), .unset, .unset] [(.ref b5)])) rfl (by rw [hml]; rfl) (Steps.refl _) (argsL := []) (rest := []) (lenOf pdx_1 rfl) rfl (by show 2 * 0 + _ ≤ _; exact Nat.le_of_eq rfl) (hb hby at_60) (fun _ _ => ⟨rfl, rfl, (by decide : 1 + 0 ≤ _), (by decide : 3 + 0 ≤ _)⟩)
  dsimp only [Pt.U, Pt.locs, Pt.cells, Pt.slots] at X7 l7 y7 z7 st7 hQ7
  subst l7 y7 z7
  obtain ⟨rfl, N7q, e7⟩ := hQ7
  have N7 := Fr.app N6 N7q
  have Z7 : n0 ≤ T7.heap.size := by rw [e7]; exact Z6
  obtain ⟨cq8, kq8, q8a, q8b, q8c⟩ := isOf hZ rfl (show Exa Z T7.heap b5 _ by rw [e7]; exact E6)
  obtain ⟨_, _, ⟨T8, L8, k8, n8⟩, -, X8, ⟨Lc8, hQ8, l8, y8, z8⟩, st8⟩ := X7.virtualBack hx (y := (⟨"com/example/trailplan/trailplan/model/Assignment", "resource", "()I"⟩ : MethodName)) (z := (⟨"com/example/trailplan/trailplan/model/Assignment", "resource", "()I"⟩ : MethodName)) hown (mvT hZ (hw _ (List.mem_of_getElem? (i := 20) rfl))) (mvT hZ (hw _ (List.mem_of_getElem? (i := 21) rfl))) (notFace_of_selects (args := #[]) (mvT hZ (hw _ (List.mem_of_getElem? (i := 23) rfl)))) (mvT hZ (hw _ (List.mem_of_getElem? (i := 23) rfl))) (mvT hZ (hw _ (List.mem_of_getElem? (i := 22) rfl))) (by decide) (backOf (W := 0) (rm4 l Z a0 hw [] b5 p2 T7.heap n0 Z7 (by rw [e7]; exact F6r)) hZ (hw _ (List.mem_of_getElem? (i := 24) rfl)) (hw _ (List.mem_of_getElem? (i := 2) rfl)) (by decide) (by decide)) q8a q8c (g := (mkF m 91 #[.val (.int p1), .val (.int p2), .val (.int p3), .val (.int p4), .val (.int (p4 &&& (3 : Int32))), .val (.int p2), .val (.ref b5), .val (.int (own_r3 p2)), .val (.int (0 : Int32))] [(.ref b5)])) rfl (by rw [hml]; rfl) (Steps.refl _) (argsL := []) (rest := []) (lenOf pdx_2 rfl) rfl (by show 2 * 0 + _ ≤ _; exact Nat.le_of_eq rfl) (hb hby at_91) (fun _ _ => ⟨rfl, rfl, (by decide : 1 + 0 ≤ _), (by decide : 3 + 0 ≤ _)⟩)
  dsimp only [Pt.U, Pt.locs, Pt.cells, Pt.slots] at X8 l8 y8 z8 st8 hQ8
  subst l8 y8 z8
  obtain ⟨rfl, N8q, e8⟩ := hQ8
  have N8 := Fr.app N7 N8q
  have Z8 : n0 ≤ T8.heap.size := by rw [e8]; exact Z7
  obtain ⟨cq9, kq9, q9a, q9b, q9c⟩ := isOf hZ rfl (show Exa Z T8.heap b5 _ by rw [e8, e7]; exact E6)
  obtain ⟨_, _, ⟨T9, L9, k9, n9⟩, -, X9, ⟨Lc9, hQ9, l9, y9, z9⟩, st9⟩ := X8.virtualBack hx (y := (⟨"com/example/trailplan/trailplan/model/Assignment", "task", "()I"⟩ : MethodName)) (z := (⟨"com/example/trailplan/trailplan/model/Assignment", "task", "()I"⟩ : MethodName)) hown (mvT hZ (hw _ (List.mem_of_getElem? (i := 25) rfl))) (mvT hZ (hw _ (List.mem_of_getElem? (i := 26) rfl))) (notFace_of_selects (args := #[]) (mvT hZ (hw _ (List.mem_of_getElem? (i := 28) rfl)))) (mvT hZ (hw _ (List.mem_of_getElem? (i := 28) rfl))) (mvT hZ (hw _ (List.mem_of_getElem? (i := 27) rfl))) (by decide) (backOf (W := 0) (rm5 l Z a0 hw [] b5 p1 T8.heap n0 Z8 (by rw [e8, e7]; exact F6t)) hZ (hw _ (List.mem_of_getElem? (i := 29) rfl)) (hw _ (List.mem_of_getElem? (i := 2) rfl)) (by decide) (by decide)) q9a q9c (g := (mkF m 103 #[.val (.int p1), .val (.int p2), .val (.int p3), .val (.int p4), .val (.int (p4 &&& (3 : Int32))), .val (.int p2), .val (.ref b5), .val (.int (own_r3 p2)), .val (.int (0 : Int32))] [(.ref b5)])) rfl (by rw [hml]; rfl) (Steps.refl _) (argsL := []) (rest := []) (lenOf pdx_2 rfl) rfl (by show 2 * 0 + _ ≤ _; exact Nat.le_of_eq rfl) (hb hby at_103) (fun _ _ => ⟨rfl, rfl, (by decide : 1 + 0 ≤ _), (by decide : 3 + 0 ≤ _)⟩)
  dsimp only [Pt.U, Pt.locs, Pt.cells, Pt.slots] at X9 l9 y9 z9 st9 hQ9
  subst l9 y9 z9
  obtain ⟨rfl, N9q, e9⟩ := hQ9
  have N9 := Fr.app N8 N9q
  have Z9 : n0 ≤ T9.heap.size := by rw [e9]; exact Z8
  obtain ⟨cq10, kq10, q10a, q10b, q10c⟩ := isOf hZ rfl (show Exa Z T9.heap b5 _ by rw [e9, e8, e7]; exact E6)
  obtain ⟨_, _, ⟨T10, L10, k10, n10⟩, -, X10, ⟨Lc10, hQ10, l10, y10, z10⟩, st10⟩ := X9.virtualBack hx (y := (⟨"com/example/trailplan/trailplan/model/Assignment", "start", "()I"⟩ : MethodName)) (z := (⟨"com/example/trailplan/trailplan/model/Assignment", "start", "()I"⟩ : MethodName)) hown (mvT hZ (hw _ (List.mem_of_getElem? (i := 30) rfl))) (mvT hZ (hw _ (List.mem_of_getElem? (i := 31) rfl))) (notFace_of_selects (args := #[]) (mvT hZ (hw _ (List.mem_of_getElem? (i := 33) rfl)))) (mvT hZ (hw _ (List.mem_of_getElem? (i := 33) rfl))) (mvT hZ (hw _ (List.mem_of_getElem? (i := 32) rfl))) (by decide) (backOf (W := 0) (rm6 l Z a0 hw [] b5 p3 T9.heap n0 Z9 (by rw [e9, e8, e7]; exact F6s)) hZ (hw _ (List.mem_of_getElem? (i := 34) rfl)) (hw _ (List.mem_of_getElem? (i := 2) rfl)) (by decide) (by decide)) q10a q10c (g := (mkF m 114 #[.val (.int p1), .val (.int p2), .val (.int p3), .val (.int p4), .val (.int (p4 &&& (3 : Int32))), .val (.int p2), .val (.ref b5), .val (.int (own_r3 p2)), .val (.int (0 : Int32))] [(.ref b5)])) rfl (by rw [hml]; rfl) (Steps.refl _) (argsL := []) (rest := []) (lenOf pdx_2 rfl) rfl (by show 2 * 0 + _ ≤ _; exact Nat.le_of_eq rfl) (hb hby at_114) (fun _ _ => ⟨rfl, rfl, (by decide : 1 + 0 ≤ _), (by decide : 3 + 0 ≤ _)⟩)
  dsimp only [Pt.U, Pt.locs, Pt.cells, Pt.slots] at X10 l10 y10 z10 st10 hQ10
  subst l10 y10 z10
  obtain ⟨rfl, N10q, e10⟩ := hQ10
  have N10 := Fr.app N9 N10q
  obtain ⟨fs, hr, hrun, hended, hW, hsame⟩ := X10.leave (v := some (.int (1 : Int32))) (fun h => by rw [Bd.returns] at h; cases h)
  refine ⟨_, _, pre0 _ ?_, hrun, hended, _, _, rfl, ?_, ⟨_, rfl⟩, hW, hsame.mono (by decide) (by decide)⟩
  · show Steps p.tables e below (s₁.setTop (mkF m 0 #[.val (.int p1), .val (.int p2), .val (.int p3), .val (.int p4), .unset, .unset, .unset, .unset, .unset] [])) _
    refine XS.iloadN X0.here hx rfl (hb hby at_0) rfl ?_
    show Steps p.tables e below (s₁.setTop (mkF m 1 #[.val (.int p1), .val (.int p2), .val (.int p3), .val (.int p4), .unset, .unset, .unset, .unset, .unset] [(.int p4)])) _
    refine XS.iconst X0.here hx rfl (hb hby at_1) ?_
    show Steps p.tables e below (s₁.setTop (mkF m 2 #[.val (.int p1), .val (.int p2), .val (.int p3), .val (.int p4), .unset, .unset, .unset, .unset, .unset] [(.int (3 : Int32)), (.int p4)])) _
    refine XS.iand X0.here hx rfl (hb hby at_2) rfl ?_
    show Steps p.tables e below (s₁.setTop (mkF m 3 #[.val (.int p1), .val (.int p2), .val (.int p3), .val (.int p4), .unset, .unset, .unset, .unset, .unset] [(.int (p4 &&& (3 : Int32)))])) _
    refine XS.istore X0.here hx rfl (hb hby at_3) rfl (l' := #[.val (.int p1), .val (.int p2), .val (.int p3), .val (.int p4), .val (.int (p4 &&& (3 : Int32))), .unset, .unset, .unset, .unset]) rfl ?_
    show Steps p.tables e below (s₁.setTop (mkF m 5 #[.val (.int p1), .val (.int p2), .val (.int p3), .val (.int p4), .val (.int (p4 &&& (3 : Int32))), .unset, .unset, .unset, .unset] [])) _
    refine XS.iload X0.here hx rfl (hb hby at_5) rfl ?_
    show Steps p.tables e below (s₁.setTop (mkF m 7 #[.val (.int p1), .val (.int p2), .val (.int p3), .val (.int p4), .val (.int (p4 &&& (3 : Int32))), .unset, .unset, .unset, .unset] [(.int (p4 &&& (3 : Int32)))])) _
    refine XS.iconst X0.here hx rfl (hb hby at_7) ?_
    show Steps p.tables e below (s₁.setTop (mkF m 8 #[.val (.int p1), .val (.int p2), .val (.int p3), .val (.int p4), .val (.int (p4 &&& (3 : Int32))), .unset, .unset, .unset, .unset] [(.int (1 : Int32)), (.int (p4 &&& (3 : Int32)))])) _
    refine XS.icmpYes X0.here hx rfl (pc0 := 8) (pc' := 17) rfl (hb hby at_8) rfl (feq hc8).2 (by decide) (by decide) ?_
    show Steps p.tables e below (s₁.setTop (mkF m 17 #[.val (.int p1), .val (.int p2), .val (.int p3), .val (.int p4), .val (.int (p4 &&& (3 : Int32))), .unset, .unset, .unset, .unset] [])) _
    refine XS.iload X0.here hx rfl (hb hby at_17) rfl ?_
    show Steps p.tables e below (s₁.setTop (mkF m 19 #[.val (.int p1), .val (.int p2), .val (.int p3), .val (.int p4), .val (.int (p4 &&& (3 : Int32))), .unset, .unset, .unset, .unset] [(.int (p4 &&& (3 : Int32)))])) _
    refine XS.iconst X0.here hx rfl (hb hby at_19) ?_
    show Steps p.tables e below (s₁.setTop (mkF m 20 #[.val (.int p1), .val (.int p2), .val (.int p3), .val (.int p4), .val (.int (p4 &&& (3 : Int32))), .unset, .unset, .unset, .unset] [(.int (2 : Int32)), (.int (p4 &&& (3 : Int32)))])) _
    refine XS.icmpYes X0.here hx rfl (pc0 := 20) (pc' := 30) rfl (hb hby at_20) rfl (feq hc20).2 (by decide) (by decide) ?_
    show Steps p.tables e below (s₁.setTop (mkF m 30 #[.val (.int p1), .val (.int p2), .val (.int p3), .val (.int p4), .val (.int (p4 &&& (3 : Int32))), .unset, .unset, .unset, .unset] [])) _
    refine XS.iload X0.here hx rfl (hb hby at_30) rfl ?_
    show Steps p.tables e below (s₁.setTop (mkF m 32 #[.val (.int p1), .val (.int p2), .val (.int p3), .val (.int p4), .val (.int (p4 &&& (3 : Int32))), .unset, .unset, .unset, .unset] [(.int (p4 &&& (3 : Int32)))])) _
    refine XS.iconst X0.here hx rfl (hb hby at_32) ?_
    show Steps p.tables e below (s₁.setTop (mkF m 33 #[.val (.int p1), .val (.int p2), .val (.int p3), .val (.int p4), .val (.int (p4 &&& (3 : Int32))), .unset, .unset, .unset, .unset] [(.int (3 : Int32)), (.int (p4 &&& (3 : Int32)))])) _
    refine XS.icmpYes X0.here hx rfl (pc0 := 33) (pc' := 42) rfl (hb hby at_33) rfl (feq hc33).2 (by decide) (by decide) ?_
    show Steps p.tables e below (s₁.setTop (mkF m 42 #[.val (.int p1), .val (.int p2), .val (.int p3), .val (.int p4), .val (.int (p4 &&& (3 : Int32))), .unset, .unset, .unset, .unset] [])) _
    refine XS.iloadN X0.here hx rfl (hb hby at_42) rfl ?_
    show Steps p.tables e below (s₁.setTop (mkF m 43 #[.val (.int p1), .val (.int p2), .val (.int p3), .val (.int p4), .val (.int (p4 &&& (3 : Int32))), .unset, .unset, .unset, .unset] [(.int p2)])) _
    refine XS.istore X0.here hx rfl (hb hby at_43) rfl (l' := #[.val (.int p1), .val (.int p2), .val (.int p3), .val (.int p4), .val (.int (p4 &&& (3 : Int32))), .val (.int p2), .unset, .unset, .unset]) rfl ?_
    show Steps p.tables e below (s₁.setTop (mkF m 45 #[.val (.int p1), .val (.int p2), .val (.int p3), .val (.int p4), .val (.int (p4 &&& (3 : Int32))), .val (.int p2), .unset, .unset, .unset] [])) _
    refine st5 _ ?_
    show Steps p.tables e below (T5.setTop (mkF m 48 #[.val (.int p1), .val (.int p2), .val (.int p3), .val (.int p4), .val (.int (p4 &&& (3 : Int32))), .val (.int p2), .unset, .unset, .unset] [(.ref b5)])) _
    refine XS.dup X5.here hx rfl (hb hby at_48) rfl rfl ?_
    show Steps p.tables e below (T5.setTop (mkF m 49 #[.val (.int p1), .val (.int p2), .val (.int p3), .val (.int p4), .val (.int (p4 &&& (3 : Int32))), .val (.int p2), .unset, .unset, .unset] [(.ref b5), (.ref b5)])) _
    refine XS.iloadN X5.here hx rfl (hb hby at_49) rfl ?_
    show Steps p.tables e below (T5.setTop (mkF m 50 #[.val (.int p1), .val (.int p2), .val (.int p3), .val (.int p4), .val (.int (p4 &&& (3 : Int32))), .val (.int p2), .unset, .unset, .unset] [(.int p1), (.ref b5), (.ref b5)])) _
    refine XS.iload X5.here hx rfl (hb hby at_50) rfl ?_
    show Steps p.tables e below (T5.setTop (mkF m 52 #[.val (.int p1), .val (.int p2), .val (.int p3), .val (.int p4), .val (.int (p4 &&& (3 : Int32))), .val (.int p2), .unset, .unset, .unset] [(.int p2), (.int p1), (.ref b5), (.ref b5)])) _
    refine XS.iloadN X5.here hx rfl (hb hby at_52) rfl ?_
    show Steps p.tables e below (T5.setTop (mkF m 53 #[.val (.int p1), .val (.int p2), .val (.int p3), .val (.int p4), .val (.int (p4 &&& (3 : Int32))), .val (.int p2), .unset, .unset, .unset] [(.int p3), (.int p2), (.int p1), (.ref b5), (.ref b5)])) _
    refine st6.trans ?_
    show Steps p.tables e below (T6.setTop (mkF m 56 #[.val (.int p1), .val (.int p2), .val (.int p3), .val (.int p4), .val (.int (p4 &&& (3 : Int32))), .val (.int p2), .unset, .unset, .unset] [(.ref b5)])) _
    refine XS.astore X6.here hx rfl (hb hby at_56) rfl rfl (l' := #[.val (.int p1), .val (.int p2), .val (.int p3), .val (.int p4), .val (.int (p4 &&& (3 : Int32))), .val (.int p2), .val (.ref b5), .unset, .unset]) rfl ?_
    show Steps p.tables e below (T6.setTop (mkF m 58 #[.val (.int p1), .val (.int p2), .val (.int p3), .val (.int p4), .val (.int (p4 &&& (3 : Int32))), .val (.int p2), .val (.ref b5), .unset, .unset] [])) _
    refine XS.aload X6.here hx rfl (hb hby at_58) rfl rfl ?_
    show Steps p.tables e below (T6.setTop (mkF m 60 #[.val (.int p1), .val (.int p2), .val (.int p3), .val (.int p4), .val (.int (p4 &&& (3 : Int32))), .val (.int p2), .val (.ref b5), .unset, .unset] [(.ref b5)])) _
    refine st7.trans ?_
    show Steps p.tables e below (T7.setTop (mkF m 63 #[.val (.int p1), .val (.int p2), .val (.int p3), .val (.int p4), .val (.int (p4 &&& (3 : Int32))), .val (.int p2), .val (.ref b5), .unset, .unset] [(.int (own_r3 p2))])) _
    refine XS.istore X7.here hx rfl (hb hby at_63) rfl (l' := #[.val (.int p1), .val (.int p2), .val (.int p3), .val (.int p4), .val (.int (p4 &&& (3 : Int32))), .val (.int p2), .val (.ref b5), .val (.int (own_r3 p2)), .unset]) rfl ?_
    show Steps p.tables e below (T7.setTop (mkF m 65 #[.val (.int p1), .val (.int p2), .val (.int p3), .val (.int p4), .val (.int (p4 &&& (3 : Int32))), .val (.int p2), .val (.ref b5), .val (.int (own_r3 p2)), .unset] [])) _
    refine XS.iload X7.here hx rfl (hb hby at_65) rfl ?_
    show Steps p.tables e below (T7.setTop (mkF m 67 #[.val (.int p1), .val (.int p2), .val (.int p3), .val (.int p4), .val (.int (p4 &&& (3 : Int32))), .val (.int p2), .val (.ref b5), .val (.int (own_r3 p2)), .unset] [(.int p2)])) _
    refine XS.iconst X7.here hx rfl (hb hby at_67) ?_
    show Steps p.tables e below (T7.setTop (mkF m 68 #[.val (.int p1), .val (.int p2), .val (.int p3), .val (.int p4), .val (.int (p4 &&& (3 : Int32))), .val (.int p2), .val (.ref b5), .val (.int (own_r3 p2)), .unset] [(.int (-1 : Int32)), (.int p2)])) _
    refine XS.icmpNo X7.here hx rfl (hb hby at_68) rfl (teq hc68).2 ?_
    show Steps p.tables e below (T7.setTop (mkF m 71 #[.val (.int p1), .val (.int p2), .val (.int p3), .val (.int p4), .val (.int (p4 &&& (3 : Int32))), .val (.int p2), .val (.ref b5), .val (.int (own_r3 p2)), .unset] [])) _
    refine XS.iconst X7.here hx rfl (hb hby at_71) ?_
    show Steps p.tables e below (T7.setTop (mkF m 72 #[.val (.int p1), .val (.int p2), .val (.int p3), .val (.int p4), .val (.int (p4 &&& (3 : Int32))), .val (.int p2), .val (.ref b5), .val (.int (own_r3 p2)), .unset] [(.int (0 : Int32))])) _
    refine XS.istore X7.here hx rfl (hb hby at_72) rfl (l' := #[.val (.int p1), .val (.int p2), .val (.int p3), .val (.int p4), .val (.int (p4 &&& (3 : Int32))), .val (.int p2), .val (.ref b5), .val (.int (own_r3 p2)), .val (.int (0 : Int32))]) rfl ?_
    show Steps p.tables e below (T7.setTop (mkF m 74 #[.val (.int p1), .val (.int p2), .val (.int p3), .val (.int p4), .val (.int (p4 &&& (3 : Int32))), .val (.int p2), .val (.ref b5), .val (.int (own_r3 p2)), .val (.int (0 : Int32))] [])) _
    refine XS.goto X7.here hx rfl (pc0 := 74) (pc' := 80) rfl (hb hby at_74) (by decide) (by decide) ?_
    show Steps p.tables e below (T7.setTop (mkF m 80 #[.val (.int p1), .val (.int p2), .val (.int p3), .val (.int p4), .val (.int (p4 &&& (3 : Int32))), .val (.int p2), .val (.ref b5), .val (.int (own_r3 p2)), .val (.int (0 : Int32))] [])) _
    refine XS.iload X7.here hx rfl (hb hby at_80) rfl ?_
    show Steps p.tables e below (T7.setTop (mkF m 82 #[.val (.int p1), .val (.int p2), .val (.int p3), .val (.int p4), .val (.int (p4 &&& (3 : Int32))), .val (.int p2), .val (.ref b5), .val (.int (own_r3 p2)), .val (.int (0 : Int32))] [(.int (own_r3 p2))])) _
    refine XS.iload X7.here hx rfl (hb hby at_82) rfl ?_
    show Steps p.tables e below (T7.setTop (mkF m 84 #[.val (.int p1), .val (.int p2), .val (.int p3), .val (.int p4), .val (.int (p4 &&& (3 : Int32))), .val (.int p2), .val (.ref b5), .val (.int (own_r3 p2)), .val (.int (0 : Int32))] [(.int (0 : Int32)), (.int (own_r3 p2))])) _
    refine XS.icmpYes X7.here hx rfl (pc0 := 84) (pc' := 89) rfl (hb hby at_84) rfl (teq (by rw [own_r3, if_pos hc68] : (own_r3 p2) = (0 : Int32))).1 (by decide) (by decide) ?_
    show Steps p.tables e below (T7.setTop (mkF m 89 #[.val (.int p1), .val (.int p2), .val (.int p3), .val (.int p4), .val (.int (p4 &&& (3 : Int32))), .val (.int p2), .val (.ref b5), .val (.int (own_r3 p2)), .val (.int (0 : Int32))] [])) _
    refine XS.aload X7.here hx rfl (hb hby at_89) rfl rfl ?_
    show Steps p.tables e below (T7.setTop (mkF m 91 #[.val (.int p1), .val (.int p2), .val (.int p3), .val (.int p4), .val (.int (p4 &&& (3 : Int32))), .val (.int p2), .val (.ref b5), .val (.int (own_r3 p2)), .val (.int (0 : Int32))] [(.ref b5)])) _
    refine st8.trans ?_
    show Steps p.tables e below (T8.setTop (mkF m 94 #[.val (.int p1), .val (.int p2), .val (.int p3), .val (.int p4), .val (.int (p4 &&& (3 : Int32))), .val (.int p2), .val (.ref b5), .val (.int (own_r3 p2)), .val (.int (0 : Int32))] [(.int p2)])) _
    refine XS.iload X8.here hx rfl (hb hby at_94) rfl ?_
    show Steps p.tables e below (T8.setTop (mkF m 96 #[.val (.int p1), .val (.int p2), .val (.int p3), .val (.int p4), .val (.int (p4 &&& (3 : Int32))), .val (.int p2), .val (.ref b5), .val (.int (own_r3 p2)), .val (.int (0 : Int32))] [(.int p2), (.int p2)])) _
    refine XS.icmpYes X8.here hx rfl (pc0 := 96) (pc' := 101) rfl (hb hby at_96) rfl (teq (rfl : p2 = p2)).1 (by decide) (by decide) ?_
    show Steps p.tables e below (T8.setTop (mkF m 101 #[.val (.int p1), .val (.int p2), .val (.int p3), .val (.int p4), .val (.int (p4 &&& (3 : Int32))), .val (.int p2), .val (.ref b5), .val (.int (own_r3 p2)), .val (.int (0 : Int32))] [])) _
    refine XS.aload X8.here hx rfl (hb hby at_101) rfl rfl ?_
    show Steps p.tables e below (T8.setTop (mkF m 103 #[.val (.int p1), .val (.int p2), .val (.int p3), .val (.int p4), .val (.int (p4 &&& (3 : Int32))), .val (.int p2), .val (.ref b5), .val (.int (own_r3 p2)), .val (.int (0 : Int32))] [(.ref b5)])) _
    refine st9.trans ?_
    show Steps p.tables e below (T9.setTop (mkF m 106 #[.val (.int p1), .val (.int p2), .val (.int p3), .val (.int p4), .val (.int (p4 &&& (3 : Int32))), .val (.int p2), .val (.ref b5), .val (.int (own_r3 p2)), .val (.int (0 : Int32))] [(.int p1)])) _
    refine XS.iloadN X9.here hx rfl (hb hby at_106) rfl ?_
    show Steps p.tables e below (T9.setTop (mkF m 107 #[.val (.int p1), .val (.int p2), .val (.int p3), .val (.int p4), .val (.int (p4 &&& (3 : Int32))), .val (.int p2), .val (.ref b5), .val (.int (own_r3 p2)), .val (.int (0 : Int32))] [(.int p1), (.int p1)])) _
    refine XS.icmpYes X9.here hx rfl (pc0 := 107) (pc' := 112) rfl (hb hby at_107) rfl (teq (rfl : p1 = p1)).1 (by decide) (by decide) ?_
    show Steps p.tables e below (T9.setTop (mkF m 112 #[.val (.int p1), .val (.int p2), .val (.int p3), .val (.int p4), .val (.int (p4 &&& (3 : Int32))), .val (.int p2), .val (.ref b5), .val (.int (own_r3 p2)), .val (.int (0 : Int32))] [])) _
    refine XS.aload X9.here hx rfl (hb hby at_112) rfl rfl ?_
    show Steps p.tables e below (T9.setTop (mkF m 114 #[.val (.int p1), .val (.int p2), .val (.int p3), .val (.int p4), .val (.int (p4 &&& (3 : Int32))), .val (.int p2), .val (.ref b5), .val (.int (own_r3 p2)), .val (.int (0 : Int32))] [(.ref b5)])) _
    refine st10.trans ?_
    show Steps p.tables e below (T10.setTop (mkF m 117 #[.val (.int p1), .val (.int p2), .val (.int p3), .val (.int p4), .val (.int (p4 &&& (3 : Int32))), .val (.int p2), .val (.ref b5), .val (.int (own_r3 p2)), .val (.int (0 : Int32))] [(.int p3)])) _
    refine XS.iloadN X10.here hx rfl (hb hby at_117) rfl ?_
    show Steps p.tables e below (T10.setTop (mkF m 118 #[.val (.int p1), .val (.int p2), .val (.int p3), .val (.int p4), .val (.int (p4 &&& (3 : Int32))), .val (.int p2), .val (.ref b5), .val (.int (own_r3 p2)), .val (.int (0 : Int32))] [(.int p3), (.int p3)])) _
    refine XS.icmpNo X10.here hx rfl (hb hby at_118) rfl (teq (rfl : p3 = p3)).2 ?_
    show Steps p.tables e below (T10.setTop (mkF m 121 #[.val (.int p1), .val (.int p2), .val (.int p3), .val (.int p4), .val (.int (p4 &&& (3 : Int32))), .val (.int p2), .val (.ref b5), .val (.int (own_r3 p2)), .val (.int (0 : Int32))] [])) _
    refine XS.iconst X10.here hx rfl (hb hby at_121) ?_
    show Steps p.tables e below (T10.setTop (mkF m 122 #[.val (.int p1), .val (.int p2), .val (.int p3), .val (.int p4), .val (.int (p4 &&& (3 : Int32))), .val (.int p2), .val (.ref b5), .val (.int (own_r3 p2)), .val (.int (0 : Int32))] [(.int (1 : Int32))])) _
    refine XS.goto X10.here hx rfl (pc0 := 122) (pc' := 126) rfl (hb hby at_122) (by decide) (by decide) ?_
    show Steps p.tables e below (T10.setTop (mkF m 126 #[.val (.int p1), .val (.int p2), .val (.int p3), .val (.int p4), .val (.int (p4 &&& (3 : Int32))), .val (.int p2), .val (.ref b5), .val (.int (own_r3 p2)), .val (.int (0 : Int32))] [(.int (1 : Int32))])) _
    exact retN X10 hx (t := .boolean) Bd.returns (by simp) (hb hby at_126) hr
  · show Q0 Z p1 p2 p3 p4 h0 n0 _ T10.heap _
    exact ⟨rfl, N10⟩
set_option maxRecDepth 65536 in
set_option maxHeartbeats 40000000 in
theorem rm0_e (l : Launch) (Z : State) (a0 : Array Value) (hw : ∀ d ∈ tables_1, d.before a0 Z = true) (ws : List Jvm.Cond) (p1 : Int32) (p2 : Int32) (p3 : Int32) (p4 : Int32) (h0 : Heap) (n0 : Nat) (Z0 : n0 ≤ h0.size) (hc8 : ¬ ((p4 &&& (3 : Int32)) = (1 : Int32))) (hc20 : ¬ ((p4 &&& (3 : Int32)) = (2 : Int32))) (hc33 : ¬ ((p4 &&& (3 : Int32)) = (3 : Int32))) (hc68 : ¬ (p2 = (-1 : Int32))) :
    MetFree l x (head1 (Jvm.Cond.code x code maxLocals ret :: ws) room_1) (fun a U => a = #[(.int p1), (.int p2), (.int p3), (.int p4)] ∧ Z.Warmed39 U.vm ∧ U.heap = h0) (fun _ _ _ _ _ => True) (fun _ U o U' => ∃ v L, o = .returned v ∧ Q0 Z p1 p2 p3 p4 h0 n0 v U'.heap L ∧ FrameEnd U o U' L room_1.cells room_1.slots) := by
  refine MetFree.of_bodySF (plainFor_of_name pn_0) hisR ?_
  intro p e s m args below meth c s₁ Bd hml0 hP hK
  obtain ⟨rfl, hZ, hh⟩ := hP
  have hx := Bd.exec
  have hby := Bd.bytes
  have hml : c.maxLocals = 9 := hml0
  have hown : s.vm.findClass "com/example/trailplan/trailplan/model/AssignmentHasResourcePinLaw" = some m.cls := findClass_of_methodNamed Bd.named
  have hnm := (name_of_methodNamed Bd.named Bd.method).1
  have X0 : Stand p l e room_1 s m #[(.int p1), (.int p2), (.int p3), (.int p4)] below meth c s₁ [] 0 0 := Stand.of_body Bd
  have e0 : s₁.heap = h0 := by rw [← hh, Bd.state]; rfl
  have N0 := Fr.nil n0
  have pre0 : ∀ t, Steps p.tables e below (s₁.setTop (mkF m 0 #[.val (.int p1), .val (.int p2), .val (.int p3), .val (.int p4), .unset, .unset, .unset, .unset, .unset] [])) t → Steps p.tables e below (s₁.setTop (entryFrame m #[(.int p1), (.int p2), (.int p3), (.int p4)] maxLocals)) t := fun t k => castTop (ef_0 m p1 p2 p3 p4) k
  obtain ⟨T5, h5, X5, e5, E5, A5, D5, -, st5⟩ := newO X0 hx hZ hown (hw _ (List.mem_of_getElem? (i := 0) rfl)) (hw _ (List.mem_of_getElem? (i := 1) rfl)) (hw _ (List.mem_of_getElem? (i := 2) rfl)) e0 (g := (mkF m 45 #[.val (.int p1), .val (.int p2), .val (.int p3), .val (.int p4), .val (.int (p4 &&& (3 : Int32))), .val (.int p2), .unset, .unset, .unset] [])) rfl (hb hby at_45) (by decide) (by decide)
  obtain ⟨b5, g5⟩ : ∃ z, z = h0.size := ⟨_, rfl⟩
  rw [← g5] at A5 D5 st5
  have F_task_b5 : Fld Z h5 b5 "com/example/trailplan/trailplan/model/Assignment" "task" "I" (.int (0 : Int32)) := D5 (Or.inr (hw _ (List.mem_of_getElem? (i := 10) rfl))) (ty := .int) (by decide)
  have F_resource_b5 : Fld Z h5 b5 "com/example/trailplan/trailplan/model/Assignment" "resource" "I" (.int (0 : Int32)) := D5 (Or.inr (hw _ (List.mem_of_getElem? (i := 12) rfl))) (ty := .int) (by decide)
  have F_start_b5 : Fld Z h5 b5 "com/example/trailplan/trailplan/model/Assignment" "start" "I" (.int (0 : Int32)) := D5 (Or.inr (hw _ (List.mem_of_getElem? (i := 14) rfl))) (ty := .int) (by decide)
  have E_b5 := A5
  have g_b5 : n0 ≤ b5 := Nat.le_trans Z0 (Nat.le_of_eq g5.symm)
  have sz_b5 : h0.size ≤ b5 := (Nat.le_trans (Keep.refl h0 []).1 (Nat.le_of_eq g5.symm))
  have K5 : Keep h0 h5 [] := (Keep.refl h0 []).ext E5
  obtain ⟨_, _, ⟨T6, L6, k6, n6⟩, -, X6, ⟨Lc6, hQ6, l6, y6, z6⟩, st6⟩ := X5.specialBack hx (y := (⟨"com/example/trailplan/trailplan/model/Assignment", "<init>", "(III)V"⟩ : MethodName)) rfl hown (mvT hZ (hw _ (List.mem_of_getElem? (i := 3) rfl))) (mvT hZ (hw _ (List.mem_of_getElem? (i := 4) rfl))) (mvT hZ (hw _ (List.mem_of_getElem? (i := 5) rfl))) (by decide) (backOf (W := 1) (rm1 l Z a0 hw [] b5 p1 p2 p3 (.int (0 : Int32)) (.int (0 : Int32)) (.int (0 : Int32)) h5 n0 (Nat.le_trans Z0 K5.1) E_b5 F_task_b5 g_b5 F_resource_b5 F_start_b5) hZ (hw _ (List.mem_of_getElem? (i := 5) rfl)) (hw _ (List.mem_of_getElem? (i := 2) rfl)) (by decide) (by decide)) (g := (mkF m 53 #[.val (.int p1), .val (.int p2), .val (.int p3), .val (.int p4), .val (.int (p4 &&& (3 : Int32))), .val (.int p2), .unset, .unset, .unset] [(.int p3), (.int p2), (.int p1), (.ref b5), (.ref b5)])) rfl (by rw [hml]; rfl) (Steps.refl _) (a := b5) (argsL := [(.int p1), (.int p2), (.int p3)]) (rest := [(.ref b5)]) (lenOf pdx_0 rfl) rfl (by show 2 * 0 + _ ≤ _; exact Nat.le_of_eq rfl) (hb hby at_53) (fun _ _ => ⟨rfl, e5, (by decide : 1 + 0 ≤ _), (by decide : 3 + 0 ≤ _)⟩)
  dsimp only [Pt.U, Pt.locs, Pt.cells, Pt.slots] at X6 l6 y6 z6 st6 hQ6
  subst l6 y6 z6
  obtain ⟨rfl, N6q, K6, E6, F6t, F6r, F6s⟩ := hQ6
  have N6 := Fr.app N0 N6q
  have Z6 : n0 ≤ T6.heap.size := Nat.le_trans Z0 (Nat.le_trans K5.1 K6.1)
  obtain ⟨cq7, kq7, q7a, q7b, q7c⟩ := isOf hZ rfl E6
  obtain ⟨_, _, ⟨T7, L7, k7, n7⟩, -, X7, ⟨Lc7, hQ7, l7, y7, z7⟩, st7⟩ := X6.virtualBack hx (y := (⟨"com/example/trailplan/trailplan/model/Assignment", "hasResource", "()Z"⟩ : MethodName)) (z := (⟨"com/example/trailplan/trailplan/model/Assignment", "hasResource", "()Z"⟩ : MethodName)) hown (mvT hZ (hw _ (List.mem_of_getElem? (i := 15) rfl))) (mvT hZ (hw _ (List.mem_of_getElem? (i := 16) rfl))) (notFace_of_selects (args := #[]) (mvT hZ (hw _ (List.mem_of_getElem? (i := 18) rfl)))) (mvT hZ (hw _ (List.mem_of_getElem? (i := 18) rfl))) (mvT hZ (hw _ (List.mem_of_getElem? (i := 17) rfl))) (by decide) (backOf (W := 0) (rm3 l Z a0 hw [] b5 p2 T6.heap n0 Z6 F6r) hZ (hw _ (List.mem_of_getElem? (i := 19) rfl)) (hw _ (List.mem_of_getElem? (i := 2) rfl)) (by decide) (by decide)) q7a q7c (g := (mkF m 60 #[.val (.int p1), .val (.int p2), .val (.int p3), .val (.int p4), .val (.int (p4 &&& (3 : Int32))), .val (.int p2), .val (.ref b5), .unset, .unset] [(.ref b5)])) rfl (by rw [hml]; rfl) (Steps.refl _) (argsL := []) (rest := []) (lenOf pdx_1 rfl) rfl (by show 2 * 0 + _ ≤ _; exact Nat.le_of_eq rfl) (hb hby at_60) (fun _ _ => ⟨rfl, rfl, (by decide : 1 + 0 ≤ _), (by decide : 3 + 0 ≤ _)⟩)
  dsimp only [Pt.U, Pt.locs, Pt.cells, Pt.slots] at X7 l7 y7 z7 st7 hQ7
  subst l7 y7 z7
  obtain ⟨rfl, N7q, e7⟩ := hQ7
  have N7 := Fr.app N6 N7q
  have Z7 : n0 ≤ T7.heap.size := by rw [e7]; exact Z6
  obtain ⟨cq8, kq8, q8a, q8b, q8c⟩ := isOf hZ rfl (show Exa Z T7.heap b5 _ by rw [e7]; exact E6)
  obtain ⟨_, _, ⟨T8, L8, k8, n8⟩, -, X8, ⟨Lc8, hQ8, l8, y8, z8⟩, st8⟩ := X7.virtualBack hx (y := (⟨"com/example/trailplan/trailplan/model/Assignment", "resource", "()I"⟩ : MethodName)) (z := (⟨"com/example/trailplan/trailplan/model/Assignment", "resource", "()I"⟩ : MethodName)) hown (mvT hZ (hw _ (List.mem_of_getElem? (i := 20) rfl))) (mvT hZ (hw _ (List.mem_of_getElem? (i := 21) rfl))) (notFace_of_selects (args := #[]) (mvT hZ (hw _ (List.mem_of_getElem? (i := 23) rfl)))) (mvT hZ (hw _ (List.mem_of_getElem? (i := 23) rfl))) (mvT hZ (hw _ (List.mem_of_getElem? (i := 22) rfl))) (by decide) (backOf (W := 0) (rm4 l Z a0 hw [] b5 p2 T7.heap n0 Z7 (by rw [e7]; exact F6r)) hZ (hw _ (List.mem_of_getElem? (i := 24) rfl)) (hw _ (List.mem_of_getElem? (i := 2) rfl)) (by decide) (by decide)) q8a q8c (g := (mkF m 91 #[.val (.int p1), .val (.int p2), .val (.int p3), .val (.int p4), .val (.int (p4 &&& (3 : Int32))), .val (.int p2), .val (.ref b5), .val (.int (own_r3 p2)), .val (.int (1 : Int32))] [(.ref b5)])) rfl (by rw [hml]; rfl) (Steps.refl _) (argsL := []) (rest := []) (lenOf pdx_2 rfl) rfl (by show 2 * 0 + _ ≤ _; exact Nat.le_of_eq rfl) (hb hby at_91) (fun _ _ => ⟨rfl, rfl, (by decide : 1 + 0 ≤ _), (by decide : 3 + 0 ≤ _)⟩)
  dsimp only [Pt.U, Pt.locs, Pt.cells, Pt.slots] at X8 l8 y8 z8 st8 hQ8
  subst l8 y8 z8
  obtain ⟨rfl, N8q, e8⟩ := hQ8
  have N8 := Fr.app N7 N8q
  have Z8 : n0 ≤ T8.heap.size := by rw [e8]; exact Z7
  obtain ⟨cq9, kq9, q9a, q9b, q9c⟩ := isOf hZ rfl (show Exa Z T8.heap b5 _ by rw [e8, e7]; exact E6)
  obtain ⟨_, _, ⟨T9, L9, k9, n9⟩, -, X9, ⟨Lc9, hQ9, l9, y9, z9⟩, st9⟩ := X8.virtualBack hx (y := (⟨"com/example/trailplan/trailplan/model/Assignment", "task", "()I"⟩ : MethodName)) (z := (⟨"com/example/trailplan/trailplan/model/Assignment", "task", "()I"⟩ : MethodName)) hown (mvT hZ (hw _ (List.mem_of_getElem? (i := 25) rfl))) (mvT hZ (hw _ (List.mem_of_getElem? (i := 26) rfl))) (notFace_of_selects (args := #[]) (mvT hZ (hw _ (List.mem_of_getElem? (i := 28) rfl)))) (mvT hZ (hw _ (List.mem_of_getElem? (i := 28) rfl))) (mvT hZ (hw _ (List.mem_of_getElem? (i := 27) rfl))) (by decide) (backOf (W := 0) (rm5 l Z a0 hw [] b5 p1 T8.heap n0 Z8 (by rw [e8, e7]; exact F6t)) hZ (hw _ (List.mem_of_getElem? (i := 29) rfl)) (hw _ (List.mem_of_getElem? (i := 2) rfl)) (by decide) (by decide)) q9a q9c (g := (mkF m 103 #[.val (.int p1), .val (.int p2), .val (.int p3), .val (.int p4), .val (.int (p4 &&& (3 : Int32))), .val (.int p2), .val (.ref b5), .val (.int (own_r3 p2)), .val (.int (1 : Int32))] [(.ref b5)])) rfl (by rw [hml]; rfl) (Steps.refl _) (argsL := []) (rest := []) (lenOf pdx_2 rfl) rfl (by show 2 * 0 + _ ≤ _; exact Nat.le_of_eq rfl) (hb hby at_103) (fun _ _ => ⟨rfl, rfl, (by decide : 1 + 0 ≤ _), (by decide : 3 + 0 ≤ _)⟩)
  dsimp only [Pt.U, Pt.locs, Pt.cells, Pt.slots] at X9 l9 y9 z9 st9 hQ9
  subst l9 y9 z9
  obtain ⟨rfl, N9q, e9⟩ := hQ9
  have N9 := Fr.app N8 N9q
  have Z9 : n0 ≤ T9.heap.size := by rw [e9]; exact Z8
  obtain ⟨cq10, kq10, q10a, q10b, q10c⟩ := isOf hZ rfl (show Exa Z T9.heap b5 _ by rw [e9, e8, e7]; exact E6)
  obtain ⟨_, _, ⟨T10, L10, k10, n10⟩, -, X10, ⟨Lc10, hQ10, l10, y10, z10⟩, st10⟩ := X9.virtualBack hx (y := (⟨"com/example/trailplan/trailplan/model/Assignment", "start", "()I"⟩ : MethodName)) (z := (⟨"com/example/trailplan/trailplan/model/Assignment", "start", "()I"⟩ : MethodName)) hown (mvT hZ (hw _ (List.mem_of_getElem? (i := 30) rfl))) (mvT hZ (hw _ (List.mem_of_getElem? (i := 31) rfl))) (notFace_of_selects (args := #[]) (mvT hZ (hw _ (List.mem_of_getElem? (i := 33) rfl)))) (mvT hZ (hw _ (List.mem_of_getElem? (i := 33) rfl))) (mvT hZ (hw _ (List.mem_of_getElem? (i := 32) rfl))) (by decide) (backOf (W := 0) (rm6 l Z a0 hw [] b5 p3 T9.heap n0 Z9 (by rw [e9, e8, e7]; exact F6s)) hZ (hw _ (List.mem_of_getElem? (i := 34) rfl)) (hw _ (List.mem_of_getElem? (i := 2) rfl)) (by decide) (by decide)) q10a q10c (g := (mkF m 114 #[.val (.int p1), .val (.int p2), .val (.int p3), .val (.int p4), .val (.int (p4 &&& (3 : Int32))), .val (.int p2), .val (.ref b5), .val (.int (own_r3 p2)), .val (.int (1 : Int32))] [(.ref b5)])) rfl (by rw [hml]; rfl) (Steps.refl _) (argsL := []) (rest := []) (lenOf pdx_2 rfl) rfl (by show 2 * 0 + _ ≤ _; exact Nat.le_of_eq rfl) (hb hby at_114) (fun _ _ => ⟨rfl, rfl, (by decide : 1 + 0 ≤ _), (by decide : 3 + 0 ≤ _)⟩)
  dsimp only [Pt.U, Pt.locs, Pt.cells, Pt.slots] at X10 l10 y10 z10 st10 hQ10
  subst l10 y10 z10
  obtain ⟨rfl, N10q, e10⟩ := hQ10
  have N10 := Fr.app N9 N10q
  obtain ⟨fs, hr, hrun, hended, hW, hsame⟩ := X10.leave (v := some (.int (1 : Int32))) (fun h => by rw [Bd.returns] at h; cases h)
  refine ⟨_, _, pre0 _ ?_, hrun, hended, _, _, rfl, ?_, ⟨_, rfl⟩, hW, hsame.mono (by decide) (by decide)⟩
  · show Steps p.tables e below (s₁.setTop (mkF m 0 #[.val (.int p1), .val (.int p2), .val (.int p3), .val (.int p4), .unset, .unset, .unset, .unset, .unset] [])) _
    refine XS.iloadN X0.here hx rfl (hb hby at_0) rfl ?_
    show Steps p.tables e below (s₁.setTop (mkF m 1 #[.val (.int p1), .val (.int p2), .val (.int p3), .val (.int p4), .unset, .unset, .unset, .unset, .unset] [(.int p4)])) _
    refine XS.iconst X0.here hx rfl (hb hby at_1) ?_
    show Steps p.tables e below (s₁.setTop (mkF m 2 #[.val (.int p1), .val (.int p2), .val (.int p3), .val (.int p4), .unset, .unset, .unset, .unset, .unset] [(.int (3 : Int32)), (.int p4)])) _
    refine XS.iand X0.here hx rfl (hb hby at_2) rfl ?_
    show Steps p.tables e below (s₁.setTop (mkF m 3 #[.val (.int p1), .val (.int p2), .val (.int p3), .val (.int p4), .unset, .unset, .unset, .unset, .unset] [(.int (p4 &&& (3 : Int32)))])) _
    refine XS.istore X0.here hx rfl (hb hby at_3) rfl (l' := #[.val (.int p1), .val (.int p2), .val (.int p3), .val (.int p4), .val (.int (p4 &&& (3 : Int32))), .unset, .unset, .unset, .unset]) rfl ?_
    show Steps p.tables e below (s₁.setTop (mkF m 5 #[.val (.int p1), .val (.int p2), .val (.int p3), .val (.int p4), .val (.int (p4 &&& (3 : Int32))), .unset, .unset, .unset, .unset] [])) _
    refine XS.iload X0.here hx rfl (hb hby at_5) rfl ?_
    show Steps p.tables e below (s₁.setTop (mkF m 7 #[.val (.int p1), .val (.int p2), .val (.int p3), .val (.int p4), .val (.int (p4 &&& (3 : Int32))), .unset, .unset, .unset, .unset] [(.int (p4 &&& (3 : Int32)))])) _
    refine XS.iconst X0.here hx rfl (hb hby at_7) ?_
    show Steps p.tables e below (s₁.setTop (mkF m 8 #[.val (.int p1), .val (.int p2), .val (.int p3), .val (.int p4), .val (.int (p4 &&& (3 : Int32))), .unset, .unset, .unset, .unset] [(.int (1 : Int32)), (.int (p4 &&& (3 : Int32)))])) _
    refine XS.icmpYes X0.here hx rfl (pc0 := 8) (pc' := 17) rfl (hb hby at_8) rfl (feq hc8).2 (by decide) (by decide) ?_
    show Steps p.tables e below (s₁.setTop (mkF m 17 #[.val (.int p1), .val (.int p2), .val (.int p3), .val (.int p4), .val (.int (p4 &&& (3 : Int32))), .unset, .unset, .unset, .unset] [])) _
    refine XS.iload X0.here hx rfl (hb hby at_17) rfl ?_
    show Steps p.tables e below (s₁.setTop (mkF m 19 #[.val (.int p1), .val (.int p2), .val (.int p3), .val (.int p4), .val (.int (p4 &&& (3 : Int32))), .unset, .unset, .unset, .unset] [(.int (p4 &&& (3 : Int32)))])) _
    refine XS.iconst X0.here hx rfl (hb hby at_19) ?_
    show Steps p.tables e below (s₁.setTop (mkF m 20 #[.val (.int p1), .val (.int p2), .val (.int p3), .val (.int p4), .val (.int (p4 &&& (3 : Int32))), .unset, .unset, .unset, .unset] [(.int (2 : Int32)), (.int (p4 &&& (3 : Int32)))])) _
    refine XS.icmpYes X0.here hx rfl (pc0 := 20) (pc' := 30) rfl (hb hby at_20) rfl (feq hc20).2 (by decide) (by decide) ?_
    show Steps p.tables e below (s₁.setTop (mkF m 30 #[.val (.int p1), .val (.int p2), .val (.int p3), .val (.int p4), .val (.int (p4 &&& (3 : Int32))), .unset, .unset, .unset, .unset] [])) _
    refine XS.iload X0.here hx rfl (hb hby at_30) rfl ?_
    show Steps p.tables e below (s₁.setTop (mkF m 32 #[.val (.int p1), .val (.int p2), .val (.int p3), .val (.int p4), .val (.int (p4 &&& (3 : Int32))), .unset, .unset, .unset, .unset] [(.int (p4 &&& (3 : Int32)))])) _
    refine XS.iconst X0.here hx rfl (hb hby at_32) ?_
    show Steps p.tables e below (s₁.setTop (mkF m 33 #[.val (.int p1), .val (.int p2), .val (.int p3), .val (.int p4), .val (.int (p4 &&& (3 : Int32))), .unset, .unset, .unset, .unset] [(.int (3 : Int32)), (.int (p4 &&& (3 : Int32)))])) _
    refine XS.icmpYes X0.here hx rfl (pc0 := 33) (pc' := 42) rfl (hb hby at_33) rfl (feq hc33).2 (by decide) (by decide) ?_
    show Steps p.tables e below (s₁.setTop (mkF m 42 #[.val (.int p1), .val (.int p2), .val (.int p3), .val (.int p4), .val (.int (p4 &&& (3 : Int32))), .unset, .unset, .unset, .unset] [])) _
    refine XS.iloadN X0.here hx rfl (hb hby at_42) rfl ?_
    show Steps p.tables e below (s₁.setTop (mkF m 43 #[.val (.int p1), .val (.int p2), .val (.int p3), .val (.int p4), .val (.int (p4 &&& (3 : Int32))), .unset, .unset, .unset, .unset] [(.int p2)])) _
    refine XS.istore X0.here hx rfl (hb hby at_43) rfl (l' := #[.val (.int p1), .val (.int p2), .val (.int p3), .val (.int p4), .val (.int (p4 &&& (3 : Int32))), .val (.int p2), .unset, .unset, .unset]) rfl ?_
    show Steps p.tables e below (s₁.setTop (mkF m 45 #[.val (.int p1), .val (.int p2), .val (.int p3), .val (.int p4), .val (.int (p4 &&& (3 : Int32))), .val (.int p2), .unset, .unset, .unset] [])) _
    refine st5 _ ?_
    show Steps p.tables e below (T5.setTop (mkF m 48 #[.val (.int p1), .val (.int p2), .val (.int p3), .val (.int p4), .val (.int (p4 &&& (3 : Int32))), .val (.int p2), .unset, .unset, .unset] [(.ref b5)])) _
    refine XS.dup X5.here hx rfl (hb hby at_48) rfl rfl ?_
    show Steps p.tables e below (T5.setTop (mkF m 49 #[.val (.int p1), .val (.int p2), .val (.int p3), .val (.int p4), .val (.int (p4 &&& (3 : Int32))), .val (.int p2), .unset, .unset, .unset] [(.ref b5), (.ref b5)])) _
    refine XS.iloadN X5.here hx rfl (hb hby at_49) rfl ?_
    show Steps p.tables e below (T5.setTop (mkF m 50 #[.val (.int p1), .val (.int p2), .val (.int p3), .val (.int p4), .val (.int (p4 &&& (3 : Int32))), .val (.int p2), .unset, .unset, .unset] [(.int p1), (.ref b5), (.ref b5)])) _
    refine XS.iload X5.here hx rfl (hb hby at_50) rfl ?_
    show Steps p.tables e below (T5.setTop (mkF m 52 #[.val (.int p1), .val (.int p2), .val (.int p3), .val (.int p4), .val (.int (p4 &&& (3 : Int32))), .val (.int p2), .unset, .unset, .unset] [(.int p2), (.int p1), (.ref b5), (.ref b5)])) _
    refine XS.iloadN X5.here hx rfl (hb hby at_52) rfl ?_
    show Steps p.tables e below (T5.setTop (mkF m 53 #[.val (.int p1), .val (.int p2), .val (.int p3), .val (.int p4), .val (.int (p4 &&& (3 : Int32))), .val (.int p2), .unset, .unset, .unset] [(.int p3), (.int p2), (.int p1), (.ref b5), (.ref b5)])) _
    refine st6.trans ?_
    show Steps p.tables e below (T6.setTop (mkF m 56 #[.val (.int p1), .val (.int p2), .val (.int p3), .val (.int p4), .val (.int (p4 &&& (3 : Int32))), .val (.int p2), .unset, .unset, .unset] [(.ref b5)])) _
    refine XS.astore X6.here hx rfl (hb hby at_56) rfl rfl (l' := #[.val (.int p1), .val (.int p2), .val (.int p3), .val (.int p4), .val (.int (p4 &&& (3 : Int32))), .val (.int p2), .val (.ref b5), .unset, .unset]) rfl ?_
    show Steps p.tables e below (T6.setTop (mkF m 58 #[.val (.int p1), .val (.int p2), .val (.int p3), .val (.int p4), .val (.int (p4 &&& (3 : Int32))), .val (.int p2), .val (.ref b5), .unset, .unset] [])) _
    refine XS.aload X6.here hx rfl (hb hby at_58) rfl rfl ?_
    show Steps p.tables e below (T6.setTop (mkF m 60 #[.val (.int p1), .val (.int p2), .val (.int p3), .val (.int p4), .val (.int (p4 &&& (3 : Int32))), .val (.int p2), .val (.ref b5), .unset, .unset] [(.ref b5)])) _
    refine st7.trans ?_
    show Steps p.tables e below (T7.setTop (mkF m 63 #[.val (.int p1), .val (.int p2), .val (.int p3), .val (.int p4), .val (.int (p4 &&& (3 : Int32))), .val (.int p2), .val (.ref b5), .unset, .unset] [(.int (own_r3 p2))])) _
    refine XS.istore X7.here hx rfl (hb hby at_63) rfl (l' := #[.val (.int p1), .val (.int p2), .val (.int p3), .val (.int p4), .val (.int (p4 &&& (3 : Int32))), .val (.int p2), .val (.ref b5), .val (.int (own_r3 p2)), .unset]) rfl ?_
    show Steps p.tables e below (T7.setTop (mkF m 65 #[.val (.int p1), .val (.int p2), .val (.int p3), .val (.int p4), .val (.int (p4 &&& (3 : Int32))), .val (.int p2), .val (.ref b5), .val (.int (own_r3 p2)), .unset] [])) _
    refine XS.iload X7.here hx rfl (hb hby at_65) rfl ?_
    show Steps p.tables e below (T7.setTop (mkF m 67 #[.val (.int p1), .val (.int p2), .val (.int p3), .val (.int p4), .val (.int (p4 &&& (3 : Int32))), .val (.int p2), .val (.ref b5), .val (.int (own_r3 p2)), .unset] [(.int p2)])) _
    refine XS.iconst X7.here hx rfl (hb hby at_67) ?_
    show Steps p.tables e below (T7.setTop (mkF m 68 #[.val (.int p1), .val (.int p2), .val (.int p3), .val (.int p4), .val (.int (p4 &&& (3 : Int32))), .val (.int p2), .val (.ref b5), .val (.int (own_r3 p2)), .unset] [(.int (-1 : Int32)), (.int p2)])) _
    refine XS.icmpYes X7.here hx rfl (pc0 := 68) (pc' := 77) rfl (hb hby at_68) rfl (feq hc68).2 (by decide) (by decide) ?_
    show Steps p.tables e below (T7.setTop (mkF m 77 #[.val (.int p1), .val (.int p2), .val (.int p3), .val (.int p4), .val (.int (p4 &&& (3 : Int32))), .val (.int p2), .val (.ref b5), .val (.int (own_r3 p2)), .unset] [])) _
    refine XS.iconst X7.here hx rfl (hb hby at_77) ?_
    show Steps p.tables e below (T7.setTop (mkF m 78 #[.val (.int p1), .val (.int p2), .val (.int p3), .val (.int p4), .val (.int (p4 &&& (3 : Int32))), .val (.int p2), .val (.ref b5), .val (.int (own_r3 p2)), .unset] [(.int (1 : Int32))])) _
    refine XS.istore X7.here hx rfl (hb hby at_78) rfl (l' := #[.val (.int p1), .val (.int p2), .val (.int p3), .val (.int p4), .val (.int (p4 &&& (3 : Int32))), .val (.int p2), .val (.ref b5), .val (.int (own_r3 p2)), .val (.int (1 : Int32))]) rfl ?_
    show Steps p.tables e below (T7.setTop (mkF m 80 #[.val (.int p1), .val (.int p2), .val (.int p3), .val (.int p4), .val (.int (p4 &&& (3 : Int32))), .val (.int p2), .val (.ref b5), .val (.int (own_r3 p2)), .val (.int (1 : Int32))] [])) _
    refine XS.iload X7.here hx rfl (hb hby at_80) rfl ?_
    show Steps p.tables e below (T7.setTop (mkF m 82 #[.val (.int p1), .val (.int p2), .val (.int p3), .val (.int p4), .val (.int (p4 &&& (3 : Int32))), .val (.int p2), .val (.ref b5), .val (.int (own_r3 p2)), .val (.int (1 : Int32))] [(.int (own_r3 p2))])) _
    refine XS.iload X7.here hx rfl (hb hby at_82) rfl ?_
    show Steps p.tables e below (T7.setTop (mkF m 84 #[.val (.int p1), .val (.int p2), .val (.int p3), .val (.int p4), .val (.int (p4 &&& (3 : Int32))), .val (.int p2), .val (.ref b5), .val (.int (own_r3 p2)), .val (.int (1 : Int32))] [(.int (1 : Int32)), (.int (own_r3 p2))])) _
    refine XS.icmpYes X7.here hx rfl (pc0 := 84) (pc' := 89) rfl (hb hby at_84) rfl (teq (by rw [own_r3, if_neg hc68] : (own_r3 p2) = (1 : Int32))).1 (by decide) (by decide) ?_
    show Steps p.tables e below (T7.setTop (mkF m 89 #[.val (.int p1), .val (.int p2), .val (.int p3), .val (.int p4), .val (.int (p4 &&& (3 : Int32))), .val (.int p2), .val (.ref b5), .val (.int (own_r3 p2)), .val (.int (1 : Int32))] [])) _
    refine XS.aload X7.here hx rfl (hb hby at_89) rfl rfl ?_
    show Steps p.tables e below (T7.setTop (mkF m 91 #[.val (.int p1), .val (.int p2), .val (.int p3), .val (.int p4), .val (.int (p4 &&& (3 : Int32))), .val (.int p2), .val (.ref b5), .val (.int (own_r3 p2)), .val (.int (1 : Int32))] [(.ref b5)])) _
    refine st8.trans ?_
    show Steps p.tables e below (T8.setTop (mkF m 94 #[.val (.int p1), .val (.int p2), .val (.int p3), .val (.int p4), .val (.int (p4 &&& (3 : Int32))), .val (.int p2), .val (.ref b5), .val (.int (own_r3 p2)), .val (.int (1 : Int32))] [(.int p2)])) _
    refine XS.iload X8.here hx rfl (hb hby at_94) rfl ?_
    show Steps p.tables e below (T8.setTop (mkF m 96 #[.val (.int p1), .val (.int p2), .val (.int p3), .val (.int p4), .val (.int (p4 &&& (3 : Int32))), .val (.int p2), .val (.ref b5), .val (.int (own_r3 p2)), .val (.int (1 : Int32))] [(.int p2), (.int p2)])) _
    refine XS.icmpYes X8.here hx rfl (pc0 := 96) (pc' := 101) rfl (hb hby at_96) rfl (teq (rfl : p2 = p2)).1 (by decide) (by decide) ?_
    show Steps p.tables e below (T8.setTop (mkF m 101 #[.val (.int p1), .val (.int p2), .val (.int p3), .val (.int p4), .val (.int (p4 &&& (3 : Int32))), .val (.int p2), .val (.ref b5), .val (.int (own_r3 p2)), .val (.int (1 : Int32))] [])) _
    refine XS.aload X8.here hx rfl (hb hby at_101) rfl rfl ?_
    show Steps p.tables e below (T8.setTop (mkF m 103 #[.val (.int p1), .val (.int p2), .val (.int p3), .val (.int p4), .val (.int (p4 &&& (3 : Int32))), .val (.int p2), .val (.ref b5), .val (.int (own_r3 p2)), .val (.int (1 : Int32))] [(.ref b5)])) _
    refine st9.trans ?_
    show Steps p.tables e below (T9.setTop (mkF m 106 #[.val (.int p1), .val (.int p2), .val (.int p3), .val (.int p4), .val (.int (p4 &&& (3 : Int32))), .val (.int p2), .val (.ref b5), .val (.int (own_r3 p2)), .val (.int (1 : Int32))] [(.int p1)])) _
    refine XS.iloadN X9.here hx rfl (hb hby at_106) rfl ?_
    show Steps p.tables e below (T9.setTop (mkF m 107 #[.val (.int p1), .val (.int p2), .val (.int p3), .val (.int p4), .val (.int (p4 &&& (3 : Int32))), .val (.int p2), .val (.ref b5), .val (.int (own_r3 p2)), .val (.int (1 : Int32))] [(.int p1), (.int p1)])) _
    refine XS.icmpYes X9.here hx rfl (pc0 := 107) (pc' := 112) rfl (hb hby at_107) rfl (teq (rfl : p1 = p1)).1 (by decide) (by decide) ?_
    show Steps p.tables e below (T9.setTop (mkF m 112 #[.val (.int p1), .val (.int p2), .val (.int p3), .val (.int p4), .val (.int (p4 &&& (3 : Int32))), .val (.int p2), .val (.ref b5), .val (.int (own_r3 p2)), .val (.int (1 : Int32))] [])) _
    refine XS.aload X9.here hx rfl (hb hby at_112) rfl rfl ?_
    show Steps p.tables e below (T9.setTop (mkF m 114 #[.val (.int p1), .val (.int p2), .val (.int p3), .val (.int p4), .val (.int (p4 &&& (3 : Int32))), .val (.int p2), .val (.ref b5), .val (.int (own_r3 p2)), .val (.int (1 : Int32))] [(.ref b5)])) _
    refine st10.trans ?_
    show Steps p.tables e below (T10.setTop (mkF m 117 #[.val (.int p1), .val (.int p2), .val (.int p3), .val (.int p4), .val (.int (p4 &&& (3 : Int32))), .val (.int p2), .val (.ref b5), .val (.int (own_r3 p2)), .val (.int (1 : Int32))] [(.int p3)])) _
    refine XS.iloadN X10.here hx rfl (hb hby at_117) rfl ?_
    show Steps p.tables e below (T10.setTop (mkF m 118 #[.val (.int p1), .val (.int p2), .val (.int p3), .val (.int p4), .val (.int (p4 &&& (3 : Int32))), .val (.int p2), .val (.ref b5), .val (.int (own_r3 p2)), .val (.int (1 : Int32))] [(.int p3), (.int p3)])) _
    refine XS.icmpNo X10.here hx rfl (hb hby at_118) rfl (teq (rfl : p3 = p3)).2 ?_
    show Steps p.tables e below (T10.setTop (mkF m 121 #[.val (.int p1), .val (.int p2), .val (.int p3), .val (.int p4), .val (.int (p4 &&& (3 : Int32))), .val (.int p2), .val (.ref b5), .val (.int (own_r3 p2)), .val (.int (1 : Int32))] [])) _
    refine XS.iconst X10.here hx rfl (hb hby at_121) ?_
    show Steps p.tables e below (T10.setTop (mkF m 122 #[.val (.int p1), .val (.int p2), .val (.int p3), .val (.int p4), .val (.int (p4 &&& (3 : Int32))), .val (.int p2), .val (.ref b5), .val (.int (own_r3 p2)), .val (.int (1 : Int32))] [(.int (1 : Int32))])) _
    refine XS.goto X10.here hx rfl (pc0 := 122) (pc' := 126) rfl (hb hby at_122) (by decide) (by decide) ?_
    show Steps p.tables e below (T10.setTop (mkF m 126 #[.val (.int p1), .val (.int p2), .val (.int p3), .val (.int p4), .val (.int (p4 &&& (3 : Int32))), .val (.int p2), .val (.ref b5), .val (.int (own_r3 p2)), .val (.int (1 : Int32))] [(.int (1 : Int32))])) _
    exact retN X10 hx (t := .boolean) Bd.returns (by simp) (hb hby at_126) hr
  · show Q0 Z p1 p2 p3 p4 h0 n0 _ T10.heap _
    exact ⟨rfl, N10⟩
theorem rm0 (l : Launch) (Z : State) (a0 : Array Value) (hw : ∀ d ∈ tables_1, d.before a0 Z = true) (ws : List Jvm.Cond) (p1 : Int32) (p2 : Int32) (p3 : Int32) (p4 : Int32) (h0 : Heap) (n0 : Nat) (Z0 : n0 ≤ h0.size) :
    MetFree l x (head1 (Jvm.Cond.code x code maxLocals ret :: ws) room_1) (fun a U => a = #[(.int p1), (.int p2), (.int p3), (.int p4)] ∧ Z.Warmed39 U.vm ∧ U.heap = h0) (fun _ _ _ _ _ => True) (fun _ U o U' => ∃ v L, o = .returned v ∧ Q0 Z p1 p2 p3 p4 h0 n0 v U'.heap L ∧ FrameEnd U o U' L room_1.cells room_1.slots) := by
  by_cases hc8 : (p4 &&& (3 : Int32)) = (1 : Int32)
  · exact rm0_a l Z a0 hw ws p1 p2 p3 p4 h0 n0 Z0 hc8
  · by_cases hc20 : (p4 &&& (3 : Int32)) = (2 : Int32)
    · exact rm0_b l Z a0 hw ws p1 p2 p3 p4 h0 n0 Z0 hc8 hc20 (by decide)
    · by_cases hc33 : (p4 &&& (3 : Int32)) = (3 : Int32)
      · exact rm0_c l Z a0 hw ws p1 p2 p3 p4 h0 n0 Z0 hc8 hc20 hc33 (by decide)
      · by_cases hc68 : p2 = (-1 : Int32)
        · exact rm0_d l Z a0 hw ws p1 p2 p3 p4 h0 n0 Z0 hc8 hc20 hc33 hc68
        · exact rm0_e l Z a0 hw ws p1 p2 p3 p4 h0 n0 Z0 hc8 hc20 hc33 hc68
set_option maxRecDepth 65536 in
set_option maxHeartbeats 40000000 in
theorem comes_1 {Post : Tables → Env → Array Value → State → Outcome → State → Prop} (hpost : ∀ tb e args s v u, (limb_1_1.after args s (.returned v) u = true ∧ limb_1_2.after args s (.returned v) u = true ∧ True) → FrameEnd s (.returned v) u (Jvm.fieldLocs frame_1_writes args s ++ Jvm.arrayLocs frame_1_arrays args s ++ Jvm.staticLocs frame_1_statics s) 16 128 → Post tb e args s (.returned v) u) :
    ArmFor flags0 classFile x code maxLocals ret World_1 tables_1 room_1 Calls_1 rest_1 Pre_1 Post := by
  intro l hfl _ _ p e ha hc hk s m args below hf hA hF happ hP
  obtain ⟨hcalls, hrest, hpre⟩ := hP
  obtain ⟨-, -, -, hnamed, -, -, -, hat⟩ := (Spec.applies_iff hf).mp happ
  obtain ⟨hg, hn⟩ := and_e (Cond.before_iff.mp (show (Jvm.Cond.and given_1 narrow_1).before args s = true from hpre))
  obtain ⟨g11, g12⟩ := and_e hg
  obtain ⟨g13, g14⟩ := and_e g12
  obtain ⟨g15, g16⟩ := and_e g14
  obtain ⟨g17, g18⟩ := and_e g16
  obtain ⟨w0, w1, w2, w3, rfl⟩ : ∃ w0 w1 w2 w3 : Value, args = #[w0, w1, w2, w3] := by
    have hs : args.size = 4 := by simpa [Cond.value, given_1] using g11
    obtain ⟨L⟩ := args
    match L, hs with
    | [w0, w1, w2, w3], _ => exact ⟨w0, w1, w2, w3, rfl⟩
  have hw := fun d (hd : d ∈ tables_1) => atoms_spec (ws := Jvm.Cond.code x code maxLocals ret :: tables_1) hat d (List.mem_cons_of_mem _ hd)
  have hfit : Fit s := fun {y c} hc i hi => by
    obtain ⟨ha, rfl⟩ := Array.getElem?_eq_some_iff.mp hc
    have q := List.all_eq_true.mp ((Array.all_eq_true_iff_forall_mem.mp hF) _ (Array.getElem_mem ha)) i (List.mem_range.mpr hi)
    simpa [Array.getElem?_eq_getElem hi] using q
  obtain ⟨i0, ei0⟩ := is_v g13
  obtain rfl : w0 = (.int i0) := Option.some.inj ei0
  obtain ⟨i1, ei1⟩ := is_v g15
  obtain rfl : w1 = (.int i1) := Option.some.inj ei1
  obtain ⟨i2, ei2⟩ := is_v g17
  obtain rfl : w2 = (.int i2) := Option.some.inj ei2
  obtain ⟨i3, ei3⟩ := is_v g18
  obtain rfl : w3 = (.int i3) := Option.some.inj ei3
  obtain ⟨n, o, h1, h2, h3, _, L, rfl, ⟨rfl, N⟩, hq⟩ := rm0 l s _ hw tables_1 i0 i1 i2 i3 s.heap s.heap.size (Nat.le_refl _) p e ha hc hk s m _ below hf ((Spec.applies_iff_loose hf).mp happ).1 ⟨rfl, State.Warmed39.refl s, rfl⟩ trivial
  refine ⟨n, _, h1, h2, h3, hpost _ _ _ _ _ _ ⟨Cond.after_iff.mpr rfl, Cond.after_iff.mpr (eq_i res_at (Term.int_eval (1)) rfl), trivial⟩ ⟨hq.1, hq.2.1, (hq.2.2.sift fun y hy => Or.inr (N y hy)).mono (by decide) (by decide)⟩⟩
theorem main_1_1 : Claimed_1_1 := comes_1 fun _ _ _ _ _ _ h hF => ⟨h.1, hF⟩
theorem main_1_2 : Claimed_1_2 := comes_1 fun _ _ _ _ _ _ h hF => ⟨h.2.1, hF⟩
end Jvm.Pilot.@@N@@
namespace Jvm.Pilot.@@N@@
open Jvm Jvm.ClassFile Sem Op Lib Jvm.Free Jvm.Stand Jvm.Pilot.@@N@@.Jvm.D
/-! MADE BY PROGRAM (witnessworld.py) out of the Statement's table words and the real class files: 7 classes; the members and pool entries that the words name. The judged class is class 1, her method 1. -/
namespace start1
open Jvm.ClassFile
def u (s : String) : CpInfo := .utf8 (stringToUtf16 s)
/-- a pool by its gaps: so many unusable entries, then the entry; so many at the end -/
def gap : Nat → List CpInfo → List CpInfo
  | 0, r => r
  | n + 1, r => .unusable :: gap n r
def poolList (es : List (Nat × CpInfo)) (last : Nat) : List CpInfo := es.foldr (fun e r => gap e.1 (e.2 :: r)) (gap last [])
def pool (es : List (Nat × CpInfo)) (last : Nat) : Array CpInfo := ⟨poolList es last⟩
def fileOf (pool : Array CpInfo) (this : Nat) (attrs : Array Attribute := #[]) (ms : Array MethodInfo := #[]) (fl : Nat := 33) (sup : Nat := 0) (ifs : Array Nat := #[]) (fds : Array FieldInfo := #[]) : ClassFile where
  minorVersion := 0
  majorVersion := 65
  constantPool := pool
  accessFlags := fl
  thisClass := this
  superClass := sup
  interfaces := ifs
  fields := fds
  methods := ms
  attributes := attrs
def plain (name : String) (sup : Option ClassId) : Class where
  name := name
  kind := .ordinary
  loader := none
  accessFlags := 33
  super := sup
  interfaces := #[]
  cf := none
  fields := #[]
  methods := #[]
  instanceTypes := #[]
  staticTypes := #[]
  resolved := #[]
  callSites := []
  init := .initialized
  statics := none
  mirror := none

def pool0 : Array CpInfo := pool [(5, u "<init>"), (0, u "()V"), (1, .class_ 10), (1, u "java/lang/Object")] 113

def k0c0 : Code := { maxStack := 0, maxLocals := 1, code := object_method_1_code, exceptionTable := #[], attributes := #[] }
def k0m0 : Method := { name := "<init>", desc := "()V", sig := { parameters := [], returnType := none }, accessFlags := 1, code := some k0c0 }
/-- java/lang/Object -/
def k0 : Class := { plain "java/lang/Object" none with
  accessFlags := 33
  interfaces := #[]
  cf := some (fileOf pool0 8 #[] #[{ accessFlags := 1, nameIndex := 5, descriptorIndex := 6, attributes := #[] }] 33 0 #[] #[])
  fields := #[]
  methods := #[k0m0]
  instanceTypes := #[]
  staticTypes := #[]
  resolved := Array.replicate 124 none
  statics := none }

def pool1 : Array CpInfo := pool [(1, .class_ 2), (0, u "com/example/trailplan/trailplan/model/Assignment"), (1, .class_ 6), (1, u "java/lang/Object"), (0, u "<init>"), (0, u "()V"), (0, .methodref 1 10), (0, .nameAndType 7 11), (0, u "(III)V"), (0, .methodref 1 13), (0, .nameAndType 14 15), (0, u "hasResource"), (0, u "()Z"), (0, .methodref 1 17), (0, .nameAndType 18 19), (0, u "resource"), (0, u "()I"), (0, .methodref 1 21), (0, .nameAndType 22 19), (0, u "task"), (0, .methodref 1 24), (0, .nameAndType 25 19), (0, u "start"), (0, .class_ 27), (0, u "com/example/trailplan/trailplan/model/AssignmentHasResourcePinLaw"), (2, u "law"), (0, u "(IIII)Z")] 3

def k1m0 : Method := { name := "<init>", desc := "()V", sig := { parameters := [], returnType := none }, accessFlags := 2, code := none }
def k1c1 : Code := { maxStack := 5, maxLocals := 9, code := code, exceptionTable := #[], attributes := #[] }
def k1m1 : Method := { name := "law", desc := "(IIII)Z", sig := { parameters := [.int, .int, .int, .int], returnType := some .boolean }, accessFlags := 9, code := some k1c1 }
/-- com/example/trailplan/trailplan/model/AssignmentHasResourcePinLaw -/
def k1 : Class := { plain "com/example/trailplan/trailplan/model/AssignmentHasResourcePinLaw" (some 0) with
  accessFlags := 49
  interfaces := #[]
  cf := some (fileOf pool1 26 #[] #[{ accessFlags := 2, nameIndex := 7, descriptorIndex := 8, attributes := #[] }, { accessFlags := 9, nameIndex := 30, descriptorIndex := 31, attributes := #[] }] 49 4 #[] #[])
  fields := #[]
  methods := #[k1m0, k1m1]
  instanceTypes := #[]
  staticTypes := #[]
  resolved := Array.replicate 35 none
  statics := none }

def pool2 : Array CpInfo := pool [(1, .methodref 2 3), (0, .class_ 4), (0, .nameAndType 5 6), (0, u "java/lang/Object"), (0, u "<init>"), (0, u "()V"), (0, .fieldref 8 9), (0, .class_ 10), (0, .nameAndType 11 12), (0, u "com/example/trailplan/trailplan/model/Assignment"), (0, u "task"), (0, u "I"), (0, .fieldref 8 14), (0, .nameAndType 15 12), (0, u "resource"), (0, .fieldref 8 17), (0, .nameAndType 18 12), (0, u "start"), (0, u "NO_RESOURCE"), (2, u "(III)V"), (2, u "()I"), (0, u "hasResource"), (0, u "()Z")] 3

def k2c0 : Code := { maxStack := 2, maxLocals := 4, code := prog_46_method_1_code, exceptionTable := #[], attributes := #[] }
def k2m0 : Method := { name := "<init>", desc := "(III)V", sig := { parameters := [.int, .int, .int], returnType := none }, accessFlags := 1, code := some k2c0 }
def k2c1 : Code := { maxStack := 1, maxLocals := 1, code := prog_46_method_2_code, exceptionTable := #[], attributes := #[] }
def k2m1 : Method := { name := "task", desc := "()I", sig := { parameters := [], returnType := some .int }, accessFlags := 1, code := some k2c1 }
def k2c2 : Code := { maxStack := 1, maxLocals := 1, code := prog_46_method_3_code, exceptionTable := #[], attributes := #[] }
def k2m2 : Method := { name := "resource", desc := "()I", sig := { parameters := [], returnType := some .int }, accessFlags := 1, code := some k2c2 }
def k2c3 : Code := { maxStack := 2, maxLocals := 1, code := prog_46_method_4_code, exceptionTable := #[], attributes := #[] }
def k2m3 : Method := { name := "hasResource", desc := "()Z", sig := { parameters := [], returnType := some .boolean }, accessFlags := 1, code := some k2c3 }
def k2c4 : Code := { maxStack := 1, maxLocals := 1, code := prog_46_method_5_code, exceptionTable := #[], attributes := #[] }
def k2m4 : Method := { name := "start", desc := "()I", sig := { parameters := [], returnType := some .int }, accessFlags := 1, code := some k2c4 }
/-- com/example/trailplan/trailplan/model/Assignment -/
def k2 : Class := { plain "com/example/trailplan/trailplan/model/Assignment" (some 0) with
  accessFlags := 49
  interfaces := #[]
  cf := some (fileOf pool2 8 #[] #[{ accessFlags := 1, nameIndex := 5, descriptorIndex := 22, attributes := #[] }, { accessFlags := 1, nameIndex := 11, descriptorIndex := 25, attributes := #[] }, { accessFlags := 1, nameIndex := 15, descriptorIndex := 25, attributes := #[] }, { accessFlags := 1, nameIndex := 26, descriptorIndex := 27, attributes := #[] }, { accessFlags := 1, nameIndex := 18, descriptorIndex := 25, attributes := #[] }] 49 2 #[] #[{ accessFlags := 25, nameIndex := 19, descriptorIndex := 12, attributes := #[] }, { accessFlags := 18, nameIndex := 11, descriptorIndex := 12, attributes := #[] }, { accessFlags := 18, nameIndex := 15, descriptorIndex := 12, attributes := #[] }, { accessFlags := 18, nameIndex := 18, descriptorIndex := 12, attributes := #[] }])
  fields := #[{ name := "NO_RESOURCE", type := .int, accessFlags := 25, slot := 0, constantValue := 0 }, { name := "task", type := .int, accessFlags := 18, slot := 0, constantValue := 0 }, { name := "resource", type := .int, accessFlags := 18, slot := 1, constantValue := 0 }, { name := "start", type := .int, accessFlags := 18, slot := 2, constantValue := 0 }]
  methods := #[k2m0, k2m1, k2m2, k2m3, k2m4]
  instanceTypes := #[.int, .int, .int]
  staticTypes := #[.int]
  resolved := Array.replicate 31 none
  statics := none }

def pool3 : Array CpInfo := pool [(1, u "java/lang/Cloneable"), (0, .class_ 1), (0, u "java/lang/Object"), (0, .class_ 3)] 3

/-- java/lang/Cloneable -/
def k3 : Class := { plain "java/lang/Cloneable" (some 0) with
  accessFlags := 1537
  interfaces := #[]
  cf := some (fileOf pool3 2 #[] #[] 1537 4 #[] #[])
  fields := #[]
  methods := #[]
  instanceTypes := #[]
  staticTypes := #[]
  resolved := Array.replicate 8 none
  statics := none }

def pool4 : Array CpInfo := pool [(1, u "java/io/Serializable"), (0, .class_ 1), (0, u "java/lang/Object"), (0, .class_ 3)] 3

/-- java/io/Serializable -/
def k4 : Class := { plain "java/io/Serializable" (some 0) with
  accessFlags := 1537
  interfaces := #[]
  cf := some (fileOf pool4 2 #[] #[] 1537 4 #[] #[])
  fields := #[]
  methods := #[]
  instanceTypes := #[]
  staticTypes := #[]
  resolved := Array.replicate 8 none
  statics := none }

/-- the primitive byte -/
def k5 : Class := { plain "byte" none with kind := .primitive 'B', accessFlags := 0x411 }
/-- [B -/
def k6 : Class := { plain "[B" (some 0) with kind := .array 5 .byte, interfaces := #[3, 4], accessFlags := 1041 }

def heap : Heap := #[]
def classes : Array Class := #[k0, k1, k2, k3, k4, k5, k6]
def interned : List (Array UInt16 × Addr) := []
def slotsUsed : Nat := 0
def theMethod : MethodId := ⟨1, 1⟩
def args0 : Array Value := #[.int 5, .int 6, .int 7, .int 8]
def aboutOver (below : List Frame) : State where
  vm := { classes := classes, interned := interned.toArray }
  heap := heap
  slotsUsed := slotsUsed
  threads := #[{ frames := .invoking theMethod args0 :: below }]
def below0 : List Frame := [.native { method := ⟨0, 0⟩, args := #[] }]
def about1 : State := aboutOver below0
def p0 : Program := .bare "" "" ""
def e0 : Env := launch0.env 0 0 0
theorem w_frames : about1.frames = Frame.invoking theMethod args0 :: below0 := rfl
set_option maxRecDepth 65536 in
theorem w_args : argsFit about1.vm theMethod args0 = true := by decide +kernel
set_option maxRecDepth 65536 in
theorem w_heap : heapFits about1 = true := by decide +kernel
set_option maxRecDepth 65536 in
theorem w_runnable : about1.curStatus? = some .runnable := by decide +kernel
set_option maxRecDepth 65536 in
theorem w_alone : about1.alone = true := by decide +kernel
set_option maxRecDepth 65536 in
theorem w_named : about1.methodNamed? x = some theMethod := by decide +kernel
set_option maxRecDepth 65536 in
theorem w_hears : about1.hears theMethod below0 = true := by decide +kernel
set_option maxRecDepth 65536 in
theorem w_ripe : about1.ripe theMethod args0 below0 = true := by decide +kernel
theorem w_running : about1.status = .running := rfl
set_option maxRecDepth 65536 in
theorem w_room : about1.hasRoom e0.platform room_1 = true :=
  launch0.hasRoom_least _ room_1 (by decide +kernel) (by decide +kernel) (by decide +kernel) (by decide +kernel) (by decide +kernel) (by decide +kernel)
theorem allAtoms_all (ts : List Jvm.Cond) (a : Array Jvm.Value) (st : Jvm.State) : (allAtoms ts).before a st = ts.all (fun c => c.before a st) := by
  induction ts with
  | nil => rfl
  | cons c t ih =>
    show (Jvm.Cond.and c (allAtoms t)).before a st = _
    rw [Jvm.Cond.before_and, ih, List.all_cons]
def words1 : List Jvm.Cond := Jvm.Cond.code x code maxLocals ret :: tables_1
/-- a 'code' word, met by the world's own term for the bytes: nothing is compared byte by byte -/
theorem code_word {y : MethodName} {bytes : ByteArray} {mx : Nat} {rt : Option FieldType} {a : Array Value} {s : State} {m : MethodId} {meth : Method} {c : Code} (h1 : s.methodNamed? y = some m) (h2 : s.vm.method? m = some meth) (h3 : meth.code = some c) (h4 : c.code = bytes)
    (h5 : (c.maxLocals == mx && c.exceptionTable.isEmpty && decide (c.maxStack ≤ mostOperands) && decide (meth.sig.returnType = rt) && !meth.locks && decide (parseMethodDescriptor y.desc = some meth.sig)) = true) : (Jvm.Cond.code y bytes mx rt).before a s = true := by
  simp only [Bool.and_eq_true, beq_iff_eq, Bool.not_eq_true', decide_eq_true_eq] at h5
  obtain ⟨⟨⟨⟨⟨g1, g2⟩, g3⟩, g4⟩, g5⟩, g6⟩ := h5
  simp [Cond.before, Cond.holds, Cond.value, h1, h2, h3, h4, g1, g2, g3, g4, g5, g6]
def isCode : Jvm.Cond → Bool
  | .code _ _ _ _ => true
  | _ => false
theorem all_split {L : List Jvm.Cond} {P : Jvm.Cond → Bool} (h1 : L.all (fun c => isCode c || P c) = true) (h2 : ∀ c ∈ L.filter isCode, P c = true) : L.all P = true := by
  refine List.all_eq_true.mpr fun c hc => ?_
  have h := List.all_eq_true.mp h1 c hc
  rcases Bool.eq_false_or_eq_true (isCode c) with hi | hi
  · exact h2 c (List.mem_filter.mpr ⟨hc, hi⟩)
  · simpa [hi] using h
set_option maxRecDepth 65536 in
theorem w_c0 : (Jvm.Cond.code x code maxLocals ret).before args0 about1 = true := code_word (m := ⟨1, 1⟩) (meth := k1m1) (c := k1c1) (by decide +kernel) rfl rfl rfl (by decide +kernel)
set_option maxRecDepth 65536 in
theorem w_c1 : (Jvm.Cond.code ({ cls := "com/example/trailplan/trailplan/model/Assignment", name := "<init>", desc := "(III)V" } : Jvm.MethodName) prog_46_method_1_code (4 : Nat) (Option.none : Option Jvm.ClassFile.FieldType)).before args0 about1 = true := code_word (m := ⟨2, 0⟩) (meth := k2m0) (c := k2c0) (by decide +kernel) rfl rfl rfl (by decide +kernel)
set_option maxRecDepth 65536 in
theorem w_c2 : (Jvm.Cond.code ({ cls := "java/lang/Object", name := "<init>", desc := "()V" } : Jvm.MethodName) object_method_1_code (1 : Nat) (Option.none : Option Jvm.ClassFile.FieldType)).before args0 about1 = true := code_word (m := ⟨0, 0⟩) (meth := k0m0) (c := k0c0) (by decide +kernel) rfl rfl rfl (by decide +kernel)
set_option maxRecDepth 65536 in
theorem w_c3 : (Jvm.Cond.code ({ cls := "com/example/trailplan/trailplan/model/Assignment", name := "hasResource", desc := "()Z" } : Jvm.MethodName) prog_46_method_4_code (1 : Nat) (Option.some Jvm.ClassFile.FieldType.boolean)).before args0 about1 = true := code_word (m := ⟨2, 3⟩) (meth := k2m3) (c := k2c3) (by decide +kernel) rfl rfl rfl (by decide +kernel)
set_option maxRecDepth 65536 in
theorem w_c4 : (Jvm.Cond.code ({ cls := "com/example/trailplan/trailplan/model/Assignment", name := "resource", desc := "()I" } : Jvm.MethodName) prog_46_method_3_code (1 : Nat) (Option.some Jvm.ClassFile.FieldType.int)).before args0 about1 = true := code_word (m := ⟨2, 2⟩) (meth := k2m2) (c := k2c2) (by decide +kernel) rfl rfl rfl (by decide +kernel)
set_option maxRecDepth 65536 in
theorem w_c5 : (Jvm.Cond.code ({ cls := "com/example/trailplan/trailplan/model/Assignment", name := "task", desc := "()I" } : Jvm.MethodName) prog_46_method_2_code (1 : Nat) (Option.some Jvm.ClassFile.FieldType.int)).before args0 about1 = true := code_word (m := ⟨2, 1⟩) (meth := k2m1) (c := k2c1) (by decide +kernel) rfl rfl rfl (by decide +kernel)
set_option maxRecDepth 65536 in
theorem w_c6 : (Jvm.Cond.code ({ cls := "com/example/trailplan/trailplan/model/Assignment", name := "start", desc := "()I" } : Jvm.MethodName) prog_46_method_5_code (1 : Nat) (Option.some Jvm.ClassFile.FieldType.int)).before args0 about1 = true := code_word (m := ⟨2, 4⟩) (meth := k2m4) (c := k2c4) (by decide +kernel) rfl rfl rfl (by decide +kernel)
def codes1 : List Jvm.Cond := [Jvm.Cond.code x code maxLocals ret, Jvm.Cond.code ({ cls := "com/example/trailplan/trailplan/model/Assignment", name := "<init>", desc := "(III)V" } : Jvm.MethodName) prog_46_method_1_code (4 : Nat) (Option.none : Option Jvm.ClassFile.FieldType), Jvm.Cond.code ({ cls := "java/lang/Object", name := "<init>", desc := "()V" } : Jvm.MethodName) object_method_1_code (1 : Nat) (Option.none : Option Jvm.ClassFile.FieldType), Jvm.Cond.code ({ cls := "com/example/trailplan/trailplan/model/Assignment", name := "hasResource", desc := "()Z" } : Jvm.MethodName) prog_46_method_4_code (1 : Nat) (Option.some Jvm.ClassFile.FieldType.boolean), Jvm.Cond.code ({ cls := "com/example/trailplan/trailplan/model/Assignment", name := "resource", desc := "()I" } : Jvm.MethodName) prog_46_method_3_code (1 : Nat) (Option.some Jvm.ClassFile.FieldType.int), Jvm.Cond.code ({ cls := "com/example/trailplan/trailplan/model/Assignment", name := "task", desc := "()I" } : Jvm.MethodName) prog_46_method_2_code (1 : Nat) (Option.some Jvm.ClassFile.FieldType.int), Jvm.Cond.code ({ cls := "com/example/trailplan/trailplan/model/Assignment", name := "start", desc := "()I" } : Jvm.MethodName) prog_46_method_5_code (1 : Nat) (Option.some Jvm.ClassFile.FieldType.int)]
set_option maxRecDepth 65536 in
theorem codes_eq : words1.filter isCode = codes1 := rfl
theorem w_codes : ∀ c ∈ words1.filter isCode, c.before args0 about1 = true := by
  rw [codes_eq]
  intro c hc
  simp only [codes1, List.mem_cons, List.not_mem_nil, or_false] at hc
  rcases hc with rfl | rfl | rfl | rfl | rfl | rfl | rfl
  · exact w_c0
  · exact w_c1
  · exact w_c2
  · exact w_c3
  · exact w_c4
  · exact w_c5
  · exact w_c6
set_option maxRecDepth 65536 in
theorem w_t1 : (words1.take 24).all (fun c => isCode c || c.before args0 about1) = true := by decide +kernel
set_option maxRecDepth 65536 in
theorem w_t2 : (words1.drop 24).all (fun c => isCode c || c.before args0 about1) = true := by decide +kernel
theorem w_tables : (allAtoms (Jvm.Cond.code x code maxLocals ret :: tables_1)).before args0 about1 = true := by
  rw [allAtoms_all]
  show words1.all (fun c => c.before args0 about1) = true
  refine all_split ?_ w_codes
  rw [← List.take_append_drop 24 words1, List.all_append, w_t1, w_t2]
  rfl
set_option maxRecDepth 65536 in
theorem w_case : (Jvm.Cond.and given_1 narrow_1).before args0 about1 = true := by decide +kernel
theorem w_applies : (headSpec (Jvm.Cond.code x code maxLocals ret :: tables_1) room_1).applies x e0.platform about1 = true :=
  (Spec.applies_iff w_frames).mpr ⟨w_running, w_runnable, w_alone, w_named, w_hears, w_ripe, w_room, w_tables⟩
theorem atStart : AtStart classFile x code maxLocals ret World_1 tables_1 room_1 Calls_1 rest_1 Pre_1 launch0 p0 e0 about1 theMethod args0 below0 :=
  ⟨lists_1, trivial, launch0.admits_env _ _ _, launch0.least_env, fairChoices_fair.cas, fairChoices_fair.clock, w_frames, w_args, w_heap, w_applies, trivial, trivial, w_case⟩
end start1
theorem witness_1 : WitnessClaimed_1 := ⟨start1.p0, start1.e0, start1.about1, start1.theMethod, start1.args0, start1.below0, start1.atStart⟩
end Jvm.Pilot.@@N@@
