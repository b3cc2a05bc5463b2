import JvmDerived
import JvmDerived.Pilot.@@N@@Statement
import JvmDerived.Pilot.@@N@@Code
set_option linter.unusedVariables false
set_option linter.unusedSimpArgs false
@@BLOCK:NumsL.lean.txt@@
namespace Jvm.RoadKit
open Sem ClassFile Op Lib Jvm.Stand Jvm.Free Jvm.LawKit
section New
variable {p : Program} {l : Launch} {e : Env} {R : Room} {s : State} {m : MethodId} {args : Array Value} {below : List Frame} {meth : Method} {c : Code} {T : State} {locs : List Loc} {cells slots : Nat}
theorem retI (X : Stand p l e R s m args below meth c T locs cells slots) (hx : p.tables.exec = Jvm.exec) {pc : Nat} {Ls : Array Slot} {z : Int32} {rest : List Value} (hret : meth.sig.returnType = some .int) (hd : decode c.code pc = .ok (.ireturn, 1)) {fs : List Frame}
    (hl : ∀ (f : JFrame) (acts : List Action), f.method = m → f.locked = none → f.entered = [] → (doReturn e (T.setTop f) acts (some (.int z))).1 = T.setFrames fs) : Steps p.tables e below (T.setTop (mkF m pc Ls (.int z :: rest))) (T.setFrames fs) := by
  have hm' : T.vm.method? m = some meth := X.method'
  have hn : narrow .int (.int z) = .int z := rfl
  show Steps p.tables e below (T.setTop { method := m, pc := pc, locals := Ls, stack := _ :: rest, locked := none }) _
  jvm_step X.here [X.here.top, hx, hd, hm', hret, hn]
  first | (intro acts; rw [hl _ acts rfl rfl rfl]) | rw [hl _ _ rfl rfl rfl]
  exact Steps.refl _
end New
end Jvm.RoadKit
namespace Jvm.Pilot.@@N@@
open Jvm Jvm.ClassFile Sem Op Lib Jvm.Free Jvm.Stand Jvm.LawKit Jvm.RoadKit Bundle Jvm.Pilot.@@N@@.Jvm.D
def Go (p : Program) (e : Env) (below : List Frame) (T : State) (f : JFrame) (S0 : State) : Prop := ∀ t, Steps p.tables e below (T.setTop f) t → Steps p.tables e below S0 t
theorem own_ext {h h' : Heap} (K : Keep h h' []) : Ext h h' := ⟨K.1, fun a c q => K.2.1 a c q (by simp)⟩
theorem own_ks {h0 h h' : Heap} {ws : List Addr} (g : h' = h) (K : Keep h0 h ws) : Keep h0 h' ws := by rw [g]; exact K
theorem own_old {H h h' : Heap} {ws : List Addr} {n0 : Nat} (O : Ext H h) (K : Keep h h' ws) (hn : H.size ≤ n0) (q : ∀ x ∈ ws, n0 ≤ x) : Ext H h' :=
  ⟨Nat.le_trans O.1 K.1, fun a c hc => K.2.1 a c (O.2 a c hc) fun z => absurd (Array.getElem?_eq_some_iff.mp hc).1 (Nat.not_lt.mpr (Nat.le_trans hn (q a z)))⟩
def own_tb : List Cond := tables_1.filter (fun d => d.onTables && d.keepsFace) ++ [(Jvm.Cond.arrayOver (Jvm.ClassFile.FieldType.object "java/lang/Object")), (Jvm.Cond.fieldLinkNest "java/util/ImmutableCollections$List12" (19 : Nat) "java/util/ImmutableCollections" "EMPTY" "Ljava/lang/Object;" "java/util/ImmutableCollections"), (Jvm.Cond.methodLinkNest "java/util/ImmutableCollections" (43 : Nat) ({ cls := "java/util/ImmutableCollections$ListN", name := "<init>", desc := "([Ljava/lang/Object;Z)V" } : Jvm.MethodName) "java/util/ImmutableCollections")]
theorem own_mv {Z s : State} {a0 args : Array Value} (hZ : Z.Warmed39 s.vm) (hw : ∀ d ∈ tables_1, d.before a0 Z = true) : ∀ d ∈ own_tb, d.before args s = true := by
  intro d hd
  rcases List.mem_append.mp hd with h | h
  · obtain ⟨h1, h2⟩ := List.mem_filter.mp h
    exact mvT hZ (hw d h1) h2
  · simp only [List.mem_cons, List.not_mem_nil, or_false] at h
    rcases h with rfl | rfl | rfl
    · exact Cond.arrayOver_alike hZ.alike (hw _ (List.mem_of_getElem? (i := 140) rfl))
    · exact mvN hZ (hw _ (List.mem_of_getElem? (i := 202) rfl))
    · exact (Cond.methodLinkNest_wide hZ (hw _ (List.mem_of_getElem? (i := 211) rfl)) :)
theorem own_tabAll {Z s : State} {a0 args : Array Value} (hZ : Z.Warmed39 s.vm) (hw : ∀ d ∈ tables_1, d.before a0 Z = true) : Jvm.Free.LOB.CopyOf.tabAll.before args s = true :=
  Jvm.Free.ALB.holds_of_flat (L := [Jvm.Free.LOB.CopyOf.tabAll]) (F := own_tb) (by decide +kernel) (own_mv hZ hw) _ (List.mem_singleton.mpr rfl)
theorem pnj_1 : plainName "java/util/AbstractCollection" = true := by first | (simp [plainName, overriddenIn]; done) | decide +kernel
theorem efj_rm_acinit (m : MethodId) (a1 : Addr) : entryFrame m #[(.ref a1)] 1 = mkF m 0 #[.val (.ref a1)] [] := by first | (simp [entryFrame, mkF, argsToLocals, Value.category]; done) | rfl
theorem d1_0 : decode jdk_22_method_1_code 0 = .ok (.aload_n 0, 1) := by decide +kernel
theorem d1_1 : decode jdk_22_method_1_code 1 = .ok (.invokespecial 1, 3) := by decide +kernel
theorem d1_4 : decode jdk_22_method_1_code 4 = .ok (.return_, 1) := by decide +kernel
def Q_rm_acinit (Z : State) (a1 : Addr) (h0 : Heap) (n0 : Nat) (v : Option Value) (h : Heap) (L : List Loc) : Prop := v = none ∧ Fr n0 L ∧ h = h0
set_option maxRecDepth 65536 in
set_option maxHeartbeats 40000000 in
theorem rm_acinit (l : Launch) (Z : State) (a0 : Array Value) (hw : ∀ d ∈ tables_1, d.before a0 Z = true) (ws : List Jvm.Cond) (a1 : Addr) (h0 : Heap) (n0 : Nat) (Z0 : n0 ≤ h0.size) :
    MetFree l (⟨"java/util/AbstractCollection", "<init>", "()V"⟩ : MethodName) (head1 (Jvm.Cond.code (⟨"java/util/AbstractCollection", "<init>", "()V"⟩ : MethodName) jdk_22_method_1_code 1 none :: ws) ({ frames := 1, cells := 0, slots := 0, locals := 12 } : Room)) (fun a U => a = #[(.ref a1)] ∧ Z.Warmed39 U.vm ∧ U.heap = h0) (fun _ _ _ _ _ => True) (fun _ U o U' => ∃ v L, o = .returned v ∧ Q_rm_acinit Z a1 h0 n0 v U'.heap L ∧ FrameEnd U o U' L ({ frames := 1, cells := 0, slots := 0, locals := 12 } : Room).cells ({ frames := 1, cells := 0, slots := 0, locals := 12 } : Room).slots) := by
  refine MetFree.of_bodySF (plainFor_of_name pnj_1) hisR ?_
  intro p e s m args below meth c s₁ Bd hml0 hP hK
  obtain ⟨rfl, hZ, hh⟩ := hP
  have hx := Bd.exec
  have hby := Bd.bytes
  have hml : c.maxLocals = 1 := hml0
  have hown : s.vm.findClass "java/util/AbstractCollection" = some m.cls := findClass_of_methodNamed Bd.named
  have hnm := (name_of_methodNamed Bd.named Bd.method).1
  have X0 : Stand p l e ({ frames := 1, cells := 0, slots := 0, locals := 12 } : Room) s m #[(.ref a1)] below meth c s₁ [] 0 0 := Stand.of_body Bd
  have e0 : s₁.heap = h0 := by rw [← hh, Bd.state]; rfl
  have N0 := Fr.nil n0
  have go0 : Go p e below s₁ (mkF m 0 #[.val (.ref a1)] []) (s₁.setTop (entryFrame m #[(.ref a1)] 1)) := fun t k => castTop (efj_rm_acinit m a1) k
  generalize (s₁.setTop (entryFrame m #[(.ref a1)] 1)) = S0 at go0 ⊢
  have go101 : Go p e below s₁ (mkF m 1 #[.val (.ref a1)] [(.ref a1)]) S0 := by
    intro t kt
    refine go0 t ?_
    refine XS.aloadN X0.here hx rfl (hb hby d1_0) rfl rfl ?_
    exact kt
  obtain ⟨T102, X102, e102, st102⟩ := initO X0 hx hZ hown (hw _ (List.mem_of_getElem? (i := 19) rfl)) (hw _ (List.mem_of_getElem? (i := 20) rfl)) (hw _ (List.mem_of_getElem? (i := 21) rfl)) e0 (g := (mkF m 1 #[.val (.ref a1)] [(.ref a1)])) rfl (by rw [hml]; rfl) rfl (hb hby d1_1) (by decide) (W := 0) (by show 2 * 0 + _ ≤ _; exact Nat.le_of_eq rfl) (by decide)
  have go103 : Go p e below T102 (mkF m 4 #[.val (.ref a1)] []) S0 := fun t kt => go101 t (st102 _ kt)
  obtain ⟨fs, hr, hrun, hended, hW, hsame⟩ := X102.leave (v := none) (fun _ => rfl)
  refine ⟨_, _, go103 _ ?_, hrun, hended, _, _, rfl, ?_, ⟨_, rfl⟩, hW, hsame.mono (by decide) (by decide)⟩
  · show Steps p.tables e below (T102.setTop (mkF m 4 #[.val (.ref a1)] [])) _
    exact X102.returnOut hx Bd.returns (hb hby d1_4) hr
  · show Q_rm_acinit Z a1 h0 n0 _ T102.heap _
    rw [e102]
    exact ⟨rfl, N0, rfl⟩
theorem pnj_2 : plainName "java/util/AbstractList" = true := by first | (simp [plainName, overriddenIn]; done) | decide +kernel
theorem efj_rm_ablinit (m : MethodId) (a1 : Addr) : entryFrame m #[(.ref a1)] 1 = mkF m 0 #[.val (.ref a1)] [] := by first | (simp [entryFrame, mkF, argsToLocals, Value.category]; done) | rfl
theorem d2_0 : decode jdk_39_method_1_code 0 = .ok (.aload_n 0, 1) := by decide +kernel
theorem pdj___V : parseMethodDescriptor "()V" = some ⟨[], none⟩ := by decide +kernel
theorem d2_1 : decode jdk_39_method_1_code 1 = .ok (.invokespecial 1, 3) := by decide +kernel
theorem d2_4 : decode jdk_39_method_1_code 4 = .ok (.aload_n 0, 1) := by decide +kernel
theorem d2_5 : decode jdk_39_method_1_code 5 = .ok (.iconst 0, 1) := by decide +kernel
theorem d2_6 : decode jdk_39_method_1_code 6 = .ok (.putfield 7, 3) := by decide +kernel
theorem d2_9 : decode jdk_39_method_1_code 9 = .ok (.return_, 1) := by decide +kernel
def Q_rm_ablinit (Z : State) (a1 : Addr) (h0 : Heap) (n0 : Nat) (v : Option Value) (h : Heap) (L : List Loc) : Prop := v = none ∧ Fr n0 L ∧ Keep h0 h [a1] ∧ Exa Z h a1 "java/util/ArrayList" ∧ Fld Z h a1 "java/util/AbstractList" "modCount" "I" (.int (0 : Int32)) ∧ Fld Z h a1 "java/util/ArrayList" "elementData" "[Ljava/lang/Object;" .null ∧ Fld Z h a1 "java/util/ArrayList" "size" "I" (.int (0 : Int32))
set_option maxRecDepth 65536 in
set_option maxHeartbeats 40000000 in
theorem rm_ablinit (l : Launch) (Z : State) (a0 : Array Value) (hw : ∀ d ∈ tables_1, d.before a0 Z = true) (ws : List Jvm.Cond) (a1 : Addr) (h0 : Heap) (n0 : Nat) (Z0 : n0 ≤ h0.size) (E_a1 : Exa Z h0 a1 "java/util/ArrayList") (F_modCount_a1 : Fld Z h0 a1 "java/util/AbstractList" "modCount" "I" (.int (0 : Int32))) (F_elementData_a1 : Fld Z h0 a1 "java/util/ArrayList" "elementData" "[Ljava/lang/Object;" .null) (F_size_a1 : Fld Z h0 a1 "java/util/ArrayList" "size" "I" (.int (0 : Int32))) (g_a1 : n0 ≤ a1) :
    MetFree l (⟨"java/util/AbstractList", "<init>", "()V"⟩ : MethodName) (head1 (Jvm.Cond.code (⟨"java/util/AbstractList", "<init>", "()V"⟩ : MethodName) jdk_39_method_1_code 1 none :: ws) ({ frames := 2, cells := 0, slots := 0, locals := 24 } : Room)) (fun a U => a = #[(.ref a1)] ∧ Z.Warmed39 U.vm ∧ U.heap = h0) (fun _ _ _ _ _ => True) (fun _ U o U' => ∃ v L, o = .returned v ∧ Q_rm_ablinit Z a1 h0 n0 v U'.heap L ∧ FrameEnd U o U' L ({ frames := 2, cells := 0, slots := 0, locals := 24 } : Room).cells ({ frames := 2, cells := 0, slots := 0, locals := 24 } : Room).slots) := by
  refine MetFree.of_bodySF (plainFor_of_name pnj_2) hisR ?_
  intro p e s m args below meth c s₁ Bd hml0 hP hK
  obtain ⟨rfl, hZ, hh⟩ := hP
  have hx := Bd.exec
  have hby := Bd.bytes
  have hml : c.maxLocals = 1 := hml0
  have hown : s.vm.findClass "java/util/AbstractList" = some m.cls := findClass_of_methodNamed Bd.named
  have hnm := (name_of_methodNamed Bd.named Bd.method).1
  have X0 : Stand p l e ({ frames := 2, cells := 0, slots := 0, locals := 24 } : Room) s m #[(.ref a1)] below meth c s₁ [] 0 0 := Stand.of_body Bd
  have e0 : s₁.heap = h0 := by rw [← hh, Bd.state]; rfl
  have N0 := Fr.nil n0
  have go0 : Go p e below s₁ (mkF m 0 #[.val (.ref a1)] []) (s₁.setTop (entryFrame m #[(.ref a1)] 1)) := fun t k => castTop (efj_rm_ablinit m a1) k
  generalize (s₁.setTop (entryFrame m #[(.ref a1)] 1)) = S0 at go0 ⊢
  have K0 : Keep h0 h0 [a1] := Keep.refl h0 [a1]
  have go104 : Go p e below s₁ (mkF m 1 #[.val (.ref a1)] [(.ref a1)]) S0 := by
    intro t kt
    refine go0 t ?_
    refine XS.aloadN X0.here hx rfl (hb hby d2_0) rfl rfl ?_
    exact kt
  obtain ⟨_, _, ⟨T105, L105, k105, n105⟩, -, X105, ⟨Lc105, hQ105, l105, y105, z105⟩, st105⟩ := X0.specialBack hx (y := (⟨"java/util/AbstractCollection", "<init>", "()V"⟩ : MethodName)) rfl hown (mvT hZ (hw _ (List.mem_of_getElem? (i := 13) rfl))) (mvT hZ (hw _ (List.mem_of_getElem? (i := 14) rfl))) (mvT hZ (hw _ (List.mem_of_getElem? (i := 18) rfl))) (by decide) (backOf (W := 0) (rm_acinit l Z a0 hw [] a1 h0 n0 Z0) hZ (hw _ (List.mem_of_getElem? (i := 18) rfl)) (hw _ (List.mem_of_getElem? (i := 17) rfl)) (by decide) (by decide)) (g := (mkF m 1 #[.val (.ref a1)] [(.ref a1)])) rfl (by rw [hml]; rfl) (Steps.refl _) (a := a1) (argsL := []) (rest := []) (lenOf pdj___V rfl) rfl (by show 2 * 0 + _ ≤ _; exact Nat.le_of_eq rfl) (hb hby d2_1) (fun _ _ => ⟨rfl, e0, (by decide : 0 + 0 ≤ _), (by decide : 0 + 0 ≤ _)⟩)
  dsimp only [Pt.U, Pt.locs, Pt.cells, Pt.slots] at X105 l105 y105 z105 st105 hQ105
  subst l105 y105 z105
  obtain ⟨rfl, N105q, g105⟩ := hQ105
  have K0 := own_ks g105 K0
  rw [← g105] at E_a1 F_modCount_a1 F_elementData_a1 F_size_a1 Z0
  have N105 := Fr.app N0 N105q
  have go106 : Go p e below T105 (mkF m 4 #[.val (.ref a1)] []) S0 := fun t kt => go104 t (st105.trans kt)
  have go107 : Go p e below T105 (mkF m 6 #[.val (.ref a1)] [(.int (0 : Int32)), (.ref a1)]) S0 := by
    intro t kt
    refine go106 t ?_
    refine XS.aloadN X105.here hx rfl (hb hby d2_4) rfl rfl ?_
    refine XS.iconst X105.here hx rfl (hb hby d2_5) ?_
    exact kt
  obtain ⟨T108, h108, X108, e108, W108, st108⟩ := putF X105 hx hZ hown (host := "") (Or.inl (hw _ (List.mem_of_getElem? (i := 22) rfl))) Via.refl rfl F_modCount_a1 E_a1 (Or.inl (hw _ (List.mem_of_getElem? (i := 23) rfl))) (hw _ (List.mem_of_getElem? (i := 2) rfl)) (ty := .int) (by decide) rfl rfl (g := (mkF m 6 #[.val (.ref a1)] [(.int (0 : Int32)), (.ref a1)])) rfl rfl (hb hby d2_6)
  have E_a1 := E_a1.wr W108
  have F_elementData_a1 := F_elementData_a1.other W108 (Or.inr (slot_ne (Or.inl (hw _ (List.mem_of_getElem? (i := 26) rfl))) (Or.inl (hw _ (List.mem_of_getElem? (i := 23) rfl))) (by decide) (t := (.array (.object "java/lang/Object"))) (t' := .int) (by decide) (by decide)))
  have F_size_a1 := F_size_a1.other W108 (Or.inr (slot_ne (Or.inl (hw _ (List.mem_of_getElem? (i := 58) rfl))) (Or.inl (hw _ (List.mem_of_getElem? (i := 23) rfl))) (by decide) (t := .int) (t' := .int) (by decide) (by decide)))
  have F_modCount_a1 := F_modCount_a1.same W108
  have Z0 := Nat.le_trans Z0 (Keep.of_wr W108).1
  have K0 := K0.wr W108 (Or.inl (List.mem_of_getElem? (i := 0) rfl))
  have N108r := Fr.snoc X108 N105 g_a1
  have go109 : Go p e below T108 (mkF m 9 #[.val (.ref a1)] []) S0 := fun t kt => go107 t (st108 _ kt)
  obtain ⟨fs, hr, hrun, hended, hW, hsame⟩ := X108.leave (v := none) (fun _ => rfl)
  refine ⟨_, _, go109 _ ?_, hrun, hended, _, _, rfl, ?_, ⟨_, rfl⟩, hW, hsame.mono (by decide) (by decide)⟩
  · show Steps p.tables e below (T108.setTop (mkF m 9 #[.val (.ref a1)] [])) _
    exact X108.returnOut hx Bd.returns (hb hby d2_9) hr
  · show Q_rm_ablinit Z a1 h0 n0 _ T108.heap _
    rw [e108]
    exact ⟨rfl, N108r, K0, E_a1, F_modCount_a1, F_elementData_a1, F_size_a1⟩
theorem pnj_3 : plainName "java/util/ArrayList" = true := by first | (simp [plainName, overriddenIn]; done) | decide +kernel
theorem efj_rm_alinit (m : MethodId) (a1 : Addr) : entryFrame m #[(.ref a1)] 1 = mkF m 0 #[.val (.ref a1)] [] := by first | (simp [entryFrame, mkF, argsToLocals, Value.category]; done) | rfl
theorem d3_0 : decode jdk_38_method_2_code 0 = .ok (.aload_n 0, 1) := by decide +kernel
theorem d3_1 : decode jdk_38_method_2_code 1 = .ok (.invokespecial 1, 3) := by decide +kernel
theorem d3_4 : decode jdk_38_method_2_code 4 = .ok (.aload_n 0, 1) := by decide +kernel
theorem d3_5 : decode jdk_38_method_2_code 5 = .ok (.getstatic 39, 3) := by decide +kernel
theorem d3_8 : decode jdk_38_method_2_code 8 = .ok (.putfield 9, 3) := by decide +kernel
theorem d3_11 : decode jdk_38_method_2_code 11 = .ok (.return_, 1) := by decide +kernel
def Q_rm_alinit (Z : State) (a1 : Addr) (dc : Addr) (h0 : Heap) (n0 : Nat) (v : Option Value) (h : Heap) (L : List Loc) : Prop := v = none ∧ Fr n0 L ∧ Keep h0 h [a1] ∧ Exa Z h a1 "java/util/ArrayList" ∧ Fld Z h a1 "java/util/AbstractList" "modCount" "I" (.int (0 : Int32)) ∧ Fld Z h a1 "java/util/ArrayList" "elementData" "[Ljava/lang/Object;" (.ref dc) ∧ Fld Z h a1 "java/util/ArrayList" "size" "I" (.int (0 : Int32))
set_option maxRecDepth 65536 in
set_option maxHeartbeats 40000000 in
theorem rm_alinit (l : Launch) (Z : State) (a0 : Array Value) (hw : ∀ d ∈ tables_1, d.before a0 Z = true) (ws : List Jvm.Cond) (a1 : Addr) (dc : Addr) (h0 : Heap) (n0 : Nat) (Z0 : n0 ≤ h0.size) (O0 : Ext Z.heap h0) (hn0 : Z.heap.size ≤ n0) (S_DC : Sta Z Z.heap "java/util/ArrayList" "DEFAULTCAPACITY_EMPTY_ELEMENTDATA" "[Ljava/lang/Object;" (.ref dc)) (E_a1 : Exa Z h0 a1 "java/util/ArrayList") (F_modCount_a1 : Fld Z h0 a1 "java/util/AbstractList" "modCount" "I" (.int (0 : Int32))) (F_elementData_a1 : Fld Z h0 a1 "java/util/ArrayList" "elementData" "[Ljava/lang/Object;" .null) (F_size_a1 : Fld Z h0 a1 "java/util/ArrayList" "size" "I" (.int (0 : Int32))) (g_a1 : n0 ≤ a1) :
    MetFree l (⟨"java/util/ArrayList", "<init>", "()V"⟩ : MethodName) (head1 (Jvm.Cond.code (⟨"java/util/ArrayList", "<init>", "()V"⟩ : MethodName) jdk_38_method_2_code 1 none :: ws) ({ frames := 3, cells := 0, slots := 0, locals := 36 } : Room)) (fun a U => a = #[(.ref a1)] ∧ Z.Warmed39 U.vm ∧ U.heap = h0) (fun _ _ _ _ _ => True) (fun _ U o U' => ∃ v L, o = .returned v ∧ Q_rm_alinit Z a1 dc h0 n0 v U'.heap L ∧ FrameEnd U o U' L ({ frames := 3, cells := 0, slots := 0, locals := 36 } : Room).cells ({ frames := 3, cells := 0, slots := 0, locals := 36 } : Room).slots) := by
  refine MetFree.of_bodySF (plainFor_of_name pnj_3) hisR ?_
  intro p e s m args below meth c s₁ Bd hml0 hP hK
  obtain ⟨rfl, hZ, hh⟩ := hP
  have hx := Bd.exec
  have hby := Bd.bytes
  have hml : c.maxLocals = 1 := hml0
  have hown : s.vm.findClass "java/util/ArrayList" = some m.cls := findClass_of_methodNamed Bd.named
  have hnm := (name_of_methodNamed Bd.named Bd.method).1
  have X0 : Stand p l e ({ frames := 3, cells := 0, slots := 0, locals := 36 } : Room) s m #[(.ref a1)] below meth c s₁ [] 0 0 := Stand.of_body Bd
  have e0 : s₁.heap = h0 := by rw [← hh, Bd.state]; rfl
  have N0 := Fr.nil n0
  have go0 : Go p e below s₁ (mkF m 0 #[.val (.ref a1)] []) (s₁.setTop (entryFrame m #[(.ref a1)] 1)) := fun t k => castTop (efj_rm_alinit m a1) k
  generalize (s₁.setTop (entryFrame m #[(.ref a1)] 1)) = S0 at go0 ⊢
  have K0 : Keep h0 h0 [a1] := Keep.refl h0 [a1]
  have go110 : Go p e below s₁ (mkF m 1 #[.val (.ref a1)] [(.ref a1)]) S0 := by
    intro t kt
    refine go0 t ?_
    refine XS.aloadN X0.here hx rfl (hb hby d3_0) rfl rfl ?_
    exact kt
  obtain ⟨_, _, ⟨T111, L111, k111, n111⟩, -, X111, ⟨Lc111, hQ111, l111, y111, z111⟩, st111⟩ := X0.specialBack hx (y := (⟨"java/util/AbstractList", "<init>", "()V"⟩ : MethodName)) rfl hown (mvT hZ (hw _ (List.mem_of_getElem? (i := 7) rfl))) (mvT hZ (hw _ (List.mem_of_getElem? (i := 8) rfl))) (mvT hZ (hw _ (List.mem_of_getElem? (i := 12) rfl))) (by decide) (backOf (W := 0) (rm_ablinit l Z a0 hw [] a1 h0 n0 Z0 E_a1 F_modCount_a1 F_elementData_a1 F_size_a1 g_a1) hZ (hw _ (List.mem_of_getElem? (i := 12) rfl)) (hw _ (List.mem_of_getElem? (i := 11) rfl)) (by decide) (by decide)) (g := (mkF m 1 #[.val (.ref a1)] [(.ref a1)])) rfl (by rw [hml]; rfl) (Steps.refl _) (a := a1) (argsL := []) (rest := []) (lenOf pdj___V rfl) rfl (by show 2 * 0 + _ ≤ _; exact Nat.le_of_eq rfl) (hb hby d3_1) (fun _ _ => ⟨rfl, e0, (by decide : 0 + 0 ≤ _), (by decide : 0 + 0 ≤ _)⟩)
  dsimp only [Pt.U, Pt.locs, Pt.cells, Pt.slots] at X111 l111 y111 z111 st111 hQ111
  subst l111 y111 z111
  obtain ⟨rfl, N111q, K111, E111, M111, D111, Sz111⟩ := hQ111
  have K0 := K0.trans K111 (allS (Or.inl (List.mem_singleton.mpr rfl)) all0)
  have Z0 := Nat.le_trans Z0 K111.1
  have E_a1 := E111
  have F_modCount_a1 := M111
  have F_elementData_a1 := D111
  have F_size_a1 := Sz111
  have S_DC := S_DC.ext (own_old O0 K111 hn0 (allS g_a1 all0))
  have N111 := Fr.app N0 N111q
  have go112 : Go p e below T111 (mkF m 4 #[.val (.ref a1)] []) S0 := fun t kt => go110 t (st111.trans kt)
  have go113 : Go p e below T111 (mkF m 5 #[.val (.ref a1)] [(.ref a1)]) S0 := by
    intro t kt
    refine go112 t ?_
    refine XS.aloadN X111.here hx rfl (hb hby d3_4) rfl rfl ?_
    exact kt
  obtain ⟨T114, X114, e114, st114⟩ := getS2 X111 hx hZ hown (host := "") (Or.inl (hw _ (List.mem_of_getElem? (i := 24) rfl))) Via.refl rfl S_DC (g := (mkF m 5 #[.val (.ref a1)] [(.ref a1)])) rfl (hb hby d3_5)
  have go115 : Go p e below T114 (mkF m 8 #[.val (.ref a1)] [(.ref dc), (.ref a1)]) S0 := fun t kt => go113 t (st114 _ kt)
  obtain ⟨T116, h116, X116, e116, W116, st116⟩ := putF X114 hx hZ hown (host := "") (Or.inl (hw _ (List.mem_of_getElem? (i := 25) rfl))) Via.refl e114 F_elementData_a1 E_a1 (Or.inl (hw _ (List.mem_of_getElem? (i := 26) rfl))) (hw _ (List.mem_of_getElem? (i := 2) rfl)) (ty := (.array (.object "java/lang/Object"))) (by decide) rfl rfl (g := (mkF m 8 #[.val (.ref a1)] [(.ref dc), (.ref a1)])) rfl rfl (hb hby d3_8)
  have E_a1 := E_a1.wr W116
  have F_modCount_a1 := F_modCount_a1.other W116 (Or.inr (slot_ne (Or.inl (hw _ (List.mem_of_getElem? (i := 23) rfl))) (Or.inl (hw _ (List.mem_of_getElem? (i := 26) rfl))) (by decide) (t := .int) (t' := (.array (.object "java/lang/Object"))) (by decide) (by decide)))
  have F_size_a1 := F_size_a1.other W116 (Or.inr (slot_ne (Or.inl (hw _ (List.mem_of_getElem? (i := 58) rfl))) (Or.inl (hw _ (List.mem_of_getElem? (i := 26) rfl))) (by decide) (t := .int) (t' := (.array (.object "java/lang/Object"))) (by decide) (by decide)))
  have S_DC := S_DC.wr W116
  have F_elementData_a1 := F_elementData_a1.same W116
  have Z0 := Nat.le_trans Z0 (Keep.of_wr W116).1
  have K0 := K0.wr W116 (Or.inl (List.mem_of_getElem? (i := 0) rfl))
  have N116r := Fr.snoc X116 N111 g_a1
  have go117 : Go p e below T116 (mkF m 11 #[.val (.ref a1)] []) S0 := fun t kt => go115 t (st116 _ kt)
  obtain ⟨fs, hr, hrun, hended, hW, hsame⟩ := X116.leave (v := none) (fun _ => rfl)
  refine ⟨_, _, go117 _ ?_, hrun, hended, _, _, rfl, ?_, ⟨_, rfl⟩, hW, hsame.mono (by decide) (by decide)⟩
  · show Steps p.tables e below (T116.setTop (mkF m 11 #[.val (.ref a1)] [])) _
    exact X116.returnOut hx Bd.returns (hb hby d3_11) hr
  · show Q_rm_alinit Z a1 dc h0 n0 _ T116.heap _
    rw [e116]
    exact ⟨rfl, N116r, K0, E_a1, F_modCount_a1, F_elementData_a1, F_size_a1⟩
theorem pnj_4 : plainName "java/lang/StringLatin1" = true := by first | (simp [plainName, overriddenIn]; done) | decide +kernel
theorem efj_rm_canEncode (m : MethodId) (p1 : Int32) : entryFrame m #[(.int p1)] 1 = mkF m 0 #[.val (.int p1)] [] := by first | (simp [entryFrame, mkF, argsToLocals, Value.category]; done) | rfl
theorem d4_0 : decode jdk_43_method_3_code 0 = .ok (.iload_n 0, 1) := by decide +kernel
theorem d4_1 : decode jdk_43_method_3_code 1 = .ok (.sipush 255, 3) := by decide +kernel
theorem d4_4 : decode jdk_43_method_3_code 4 = .ok (.if_icmp .gt 7, 3) := by decide +kernel
theorem d4_7 : decode jdk_43_method_3_code 7 = .ok (.iconst 1, 1) := by decide +kernel
theorem d4_8 : decode jdk_43_method_3_code 8 = .ok (.goto 4, 3) := by decide +kernel
theorem d4_12 : decode jdk_43_method_3_code 12 = .ok (.ireturn, 1) := by decide +kernel
def Q_rm_canEncode (Z : State) (p1 : Int32) (h0 : Heap) (n0 : Nat) (v : Option Value) (h : Heap) (L : List Loc) : Prop := v = some (.int (1 : Int32)) ∧ Fr n0 L ∧ h = h0
set_option maxRecDepth 65536 in
set_option maxHeartbeats 40000000 in
theorem rm_canEncode (l : Launch) (Z : State) (a0 : Array Value) (hw : ∀ d ∈ tables_1, d.before a0 Z = true) (ws : List Jvm.Cond) (p1 : Int32) (h0 : Heap) (n0 : Nat) (Z0 : n0 ≤ h0.size) (hp : ¬ (255 : Int32) < p1) :
    MetFree l (⟨"java/lang/StringLatin1", "canEncode", "(C)Z"⟩ : MethodName) (head1 (Jvm.Cond.code (⟨"java/lang/StringLatin1", "canEncode", "(C)Z"⟩ : MethodName) jdk_43_method_3_code 1 (some .boolean) :: ws) ({ frames := 0, cells := 0, slots := 0, locals := 0 } : Room)) (fun a U => a = #[(.int p1)] ∧ Z.Warmed39 U.vm ∧ U.heap = h0) (fun _ _ _ _ _ => True) (fun _ U o U' => ∃ v L, o = .returned v ∧ Q_rm_canEncode Z p1 h0 n0 v U'.heap L ∧ FrameEnd U o U' L ({ frames := 0, cells := 0, slots := 0, locals := 0 } : Room).cells ({ frames := 0, cells := 0, slots := 0, locals := 0 } : Room).slots) := by
  refine MetFree.of_bodySF (plainFor_of_name pnj_4) hisR ?_
  intro p e s m args below meth c s₁ Bd hml0 hP hK
  obtain ⟨rfl, hZ, hh⟩ := hP
  have hx := Bd.exec
  have hby := Bd.bytes
  have hml : c.maxLocals = 1 := hml0
  have hown : s.vm.findClass "java/lang/StringLatin1" = some m.cls := findClass_of_methodNamed Bd.named
  have hnm := (name_of_methodNamed Bd.named Bd.method).1
  have X0 : Stand p l e ({ frames := 0, cells := 0, slots := 0, locals := 0 } : Room) s m #[(.int p1)] below meth c s₁ [] 0 0 := Stand.of_body Bd
  have e0 : s₁.heap = h0 := by rw [← hh, Bd.state]; rfl
  have N0 := Fr.nil n0
  have go0 : Go p e below s₁ (mkF m 0 #[.val (.int p1)] []) (s₁.setTop (entryFrame m #[(.int p1)] 1)) := fun t k => castTop (efj_rm_canEncode m p1) k
  generalize (s₁.setTop (entryFrame m #[(.int p1)] 1)) = S0 at go0 ⊢
  have go118 : Go p e below s₁ (mkF m 12 #[.val (.int p1)] [(.int (1 : Int32))]) S0 := by
    intro t kt
    refine go0 t ?_
    refine XS.iloadN X0.here hx rfl (hb hby d4_0) rfl ?_
    refine XS.sipush X0.here hx rfl (hb hby d4_1) ?_
    refine XS.icmpNo X0.here hx rfl (hb hby d4_4) rfl (flt hp).2.2.1 ?_
    refine XS.iconst X0.here hx rfl (hb hby d4_7) ?_
    refine XS.goto X0.here hx rfl (pc0 := 8) (pc' := 12) rfl (hb hby d4_8) (by decide) (by decide) ?_
    exact kt
  obtain ⟨fs, hr, hrun, hended, hW, hsame⟩ := X0.leave (v := some (.int (1 : Int32))) (fun h => by rw [Bd.returns] at h; cases h)
  refine ⟨_, _, go118 _ ?_, hrun, hended, _, _, rfl, ?_, ⟨_, rfl⟩, hW, hsame.mono (by decide) (by decide)⟩
  · show Steps p.tables e below (s₁.setTop (mkF m 12 #[.val (.int p1)] [(.int (1 : Int32))])) _
    exact retN X0 hx (t := .boolean) Bd.returns (by simp) (hb hby d4_12) hr
  · show Q_rm_canEncode Z p1 h0 n0 _ s₁.heap _
    rw [e0]
    exact ⟨rfl, N0, rfl⟩
theorem pnj_5 : plainName "java/lang/StringLatin1" = true := by first | (simp [plainName, overriddenIn]; done) | decide +kernel
theorem efj_rm_toBytes (m : MethodId) (p1 : Int32) : entryFrame m #[(.int p1)] 1 = mkF m 0 #[.val (.int p1)] [] := by first | (simp [entryFrame, mkF, argsToLocals, Value.category]; done) | rfl
theorem d5_0 : decode jdk_43_method_46_code 0 = .ok (.iconst 1, 1) := by decide +kernel
theorem d5_1 : decode jdk_43_method_46_code 1 = .ok (.newarray .byte, 2) := by decide +kernel
theorem d5_3 : decode jdk_43_method_46_code 3 = .ok (.dup, 1) := by decide +kernel
theorem d5_4 : decode jdk_43_method_46_code 4 = .ok (.iconst 0, 1) := by decide +kernel
theorem d5_5 : decode jdk_43_method_46_code 5 = .ok (.iload_n 0, 1) := by decide +kernel
theorem d5_6 : decode jdk_43_method_46_code 6 = .ok (.i2b, 1) := by decide +kernel
theorem d5_7 : decode jdk_43_method_46_code 7 = .ok (.bastore, 1) := by decide +kernel
theorem d5_8 : decode jdk_43_method_46_code 8 = .ok (.areturn, 1) := by decide +kernel
def Q_rm_toBytes (Z : State) (p1 : Int32) (h0 : Heap) (n0 : Nat) (v : Option Value) (h : Heap) (L : List Loc) : Prop := ∃ b : Addr, v = some (.ref b) ∧ Fr n0 L ∧ Ext h0 h
set_option maxRecDepth 65536 in
set_option maxHeartbeats 40000000 in
theorem rm_toBytes (l : Launch) (Z : State) (a0 : Array Value) (hw : ∀ d ∈ tables_1, d.before a0 Z = true) (ws : List Jvm.Cond) (p1 : Int32) (h0 : Heap) (n0 : Nat) (Z0 : n0 ≤ h0.size) :
    MetFree l (⟨"java/lang/StringLatin1", "toBytes", "(C)[B"⟩ : MethodName) (head1 (Jvm.Cond.code (⟨"java/lang/StringLatin1", "toBytes", "(C)[B"⟩ : MethodName) jdk_43_method_46_code 1 (some (.array .byte)) :: ws) ({ frames := 0, cells := 1, slots := 1, locals := 0 } : Room)) (fun a U => a = #[(.int p1)] ∧ Z.Warmed39 U.vm ∧ U.heap = h0) (fun _ _ _ _ _ => True) (fun _ U o U' => ∃ v L, o = .returned v ∧ Q_rm_toBytes Z p1 h0 n0 v U'.heap L ∧ FrameEnd U o U' L ({ frames := 0, cells := 1, slots := 1, locals := 0 } : Room).cells ({ frames := 0, cells := 1, slots := 1, locals := 0 } : Room).slots) := by
  refine MetFree.of_bodySF (plainFor_of_name pnj_5) hisR ?_
  intro p e s m args below meth c s₁ Bd hml0 hP hK
  obtain ⟨rfl, hZ, hh⟩ := hP
  have hx := Bd.exec
  have hby := Bd.bytes
  have hml : c.maxLocals = 1 := hml0
  have hown : s.vm.findClass "java/lang/StringLatin1" = some m.cls := findClass_of_methodNamed Bd.named
  have hnm := (name_of_methodNamed Bd.named Bd.method).1
  have X0 : Stand p l e ({ frames := 0, cells := 1, slots := 1, locals := 0 } : Room) s m #[(.int p1)] below meth c s₁ [] 0 0 := Stand.of_body Bd
  have e0 : s₁.heap = h0 := by rw [← hh, Bd.state]; rfl
  have N0 := Fr.nil n0
  have go0 : Go p e below s₁ (mkF m 0 #[.val (.int p1)] []) (s₁.setTop (entryFrame m #[(.int p1)] 1)) := fun t k => castTop (efj_rm_toBytes m p1) k
  generalize (s₁.setTop (entryFrame m #[(.int p1)] 1)) = S0 at go0 ⊢
  have K0 : Keep h0 h0 [] := Keep.refl h0 []
  have go119 : Go p e below s₁ (mkF m 1 #[.val (.int p1)] [(.int (1 : Int32))]) S0 := by
    intro t kt
    refine go0 t ?_
    refine XS.iconst X0.here hx rfl (hb hby d5_0) ?_
    exact kt
  obtain ⟨T120, h120, k120, X120, e120, E120, A120, st120⟩ := newP X0 hx hZ (hw _ (List.mem_of_getElem? (i := 103) rfl)) e0 (g := (mkF m 1 #[.val (.int p1)] [(.int (1 : Int32))])) rfl (hb hby d5_1) rfl (by decide) (cap := 1) (by decide) (by decide) (by decide) (by decide)
  obtain ⟨b, g120⟩ : ∃ z, z = h0.size := ⟨_, rfl⟩
  rw [← g120] at A120 st120
  have g_b : n0 ≤ b := Nat.le_trans Z0 (Nat.le_of_eq g120.symm)
  have sz_b : h0.size ≤ b := Nat.le_trans K0.1 (Nat.le_of_eq g120.symm)
  have Z0 := Nat.le_trans Z0 E120.1
  have K0 := K0.ext E120
  have go121 : Go p e below T120 (mkF m 3 #[.val (.int p1)] [(.ref b)]) S0 := fun t kt => go119 t (st120 _ kt)
  have V_b : Arv Z h120 b k120 .byte (1 : Int32) [(.int (0 : Int32))] (.int (0 : Int32)) := (Arv.new A120 (by decide)).pad (pad_rep [] (.int (0 : Int32)) 1)
  have go122 : Go p e below T120 (mkF m 7 #[.val (.int p1)] [(.int (p1.toInt8.toInt32)), (.int (0 : Int32)), (.ref b), (.ref b)]) S0 := by
    intro t kt
    refine go121 t ?_
    refine XS.dup X120.here hx rfl (hb hby d5_3) rfl rfl ?_
    refine XS.iconst X120.here hx rfl (hb hby d5_4) ?_
    refine XS.iloadN X120.here hx rfl (hb hby d5_5) rfl ?_
    refine XS.i2b X120.here hx rfl (hb hby d5_6) rfl ?_
    exact kt
  obtain ⟨cl123, Ar123, q123, S123, N123, H123, G123⟩ := V_b
  obtain ⟨T123, h123, X123, e123, W123, st123⟩ := stB X120 hx hZ e120 Ar123 (j := (0 : Int32)) (inb_of S123 ⟨by decide, by decide⟩) (g := (mkF m 7 #[.val (.int p1)] [(.int (p1.toInt8.toInt32)), (.int (0 : Int32)), (.ref b), (.ref b)])) rfl rfl (hb hby d5_7)
  have V_b : Arv Z h123 b k120 .byte (1 : Int32) [(.int (nar .byte (p1.toInt8.toInt32)))] (.int (0 : Int32)) := Arv.set Ar123 q123 S123 N123 H123 G123 (fits_nar_byte _) W123 0 rfl (Nat.le_of_ble_eq_true rfl)
  have Z0 := Nat.le_trans Z0 (Keep.of_wr W123).1
  have K0 := K0.wr W123 (Or.inr sz_b)
  have N123r := Fr.snoc X123 N0 g_b
  have go124 : Go p e below T123 (mkF m 8 #[.val (.int p1)] [(.ref b)]) S0 := fun t kt => go122 t (st123 _ kt)
  obtain ⟨fs, hr, hrun, hended, hW, hsame⟩ := X123.leave (v := some (.ref b)) (fun h => by rw [Bd.returns] at h; cases h)
  refine ⟨_, _, go124 _ ?_, hrun, hended, _, _, rfl, ?_, ⟨_, rfl⟩, hW, hsame.mono (by decide) (by decide)⟩
  · show Steps p.tables e below (T123.setTop (mkF m 8 #[.val (.int p1)] [(.ref b)])) _
    jvm_step X123.here [X123.here.top, hx, (hb hby d5_8), X123.method', Bd.returns, Value.isRef, FieldType.isReference]
    first | (intro acts; rw [hr _ acts rfl rfl rfl]) | rw [hr _ _ rfl rfl rfl]
    exact Steps.refl _
  · show Q_rm_toBytes Z p1 h0 n0 _ T123.heap _
    rw [e123]
    exact ⟨b, rfl, N123r, own_ext K0⟩
theorem pnj_6 : plainName "java/lang/String" = true := by first | (simp [plainName, overriddenIn]; done) | decide +kernel
theorem efj_rm_sinit (m : MethodId) (a1 : Addr) (a2 : Addr) : entryFrame m #[(.ref a1), (.ref a2), (.int (0 : Int32))] 3 = mkF m 0 #[.val (.ref a1), .val (.ref a2), .val (.int (0 : Int32))] [] := by first | (simp [entryFrame, mkF, argsToLocals, Value.category]; done) | rfl
theorem d6_0 : decode jdk_42_method_151_code 0 = .ok (.aload_n 0, 1) := by decide +kernel
theorem d6_1 : decode jdk_42_method_151_code 1 = .ok (.invokespecial 1, 3) := by decide +kernel
theorem d6_4 : decode jdk_42_method_151_code 4 = .ok (.aload_n 0, 1) := by decide +kernel
theorem d6_5 : decode jdk_42_method_151_code 5 = .ok (.aload_n 1, 1) := by decide +kernel
theorem d6_6 : decode jdk_42_method_151_code 6 = .ok (.putfield 9, 3) := by decide +kernel
theorem d6_9 : decode jdk_42_method_151_code 9 = .ok (.aload_n 0, 1) := by decide +kernel
theorem d6_10 : decode jdk_42_method_151_code 10 = .ok (.iload_n 2, 1) := by decide +kernel
theorem d6_11 : decode jdk_42_method_151_code 11 = .ok (.putfield 15, 3) := by decide +kernel
theorem d6_14 : decode jdk_42_method_151_code 14 = .ok (.return_, 1) := by decide +kernel
def Q_rm_sinit (Z : State) (a1 : Addr) (a2 : Addr) (h0 : Heap) (n0 : Nat) (v : Option Value) (h : Heap) (L : List Loc) : Prop := v = none ∧ Fr n0 L ∧ Keep h0 h [a1] ∧ Exa Z h a1 "java/lang/String"
set_option maxRecDepth 65536 in
set_option maxHeartbeats 40000000 in
theorem rm_sinit (l : Launch) (Z : State) (a0 : Array Value) (hw : ∀ d ∈ tables_1, d.before a0 Z = true) (ws : List Jvm.Cond) (a1 : Addr) (a2 : Addr) (h0 : Heap) (n0 : Nat) (Z0 : n0 ≤ h0.size) (E_a1 : Exa Z h0 a1 "java/lang/String") (F_value_a1 : Fld Z h0 a1 "java/lang/String" "value" "[B" .null) (F_coder_a1 : Fld Z h0 a1 "java/lang/String" "coder" "B" (.int (0 : Int32))) (g_a1 : n0 ≤ a1) :
    MetFree l (⟨"java/lang/String", "<init>", "([BB)V"⟩ : MethodName) (head1 (Jvm.Cond.code (⟨"java/lang/String", "<init>", "([BB)V"⟩ : MethodName) jdk_42_method_151_code 3 none :: ws) ({ frames := 1, cells := 0, slots := 0, locals := 12 } : Room)) (fun a U => a = #[(.ref a1), (.ref a2), (.int (0 : Int32))] ∧ Z.Warmed39 U.vm ∧ U.heap = h0) (fun _ _ _ _ _ => True) (fun _ U o U' => ∃ v L, o = .returned v ∧ Q_rm_sinit Z a1 a2 h0 n0 v U'.heap L ∧ FrameEnd U o U' L ({ frames := 1, cells := 0, slots := 0, locals := 12 } : Room).cells ({ frames := 1, cells := 0, slots := 0, locals := 12 } : Room).slots) := by
  refine MetFree.of_bodySF (plainFor_of_name pnj_6) hisR ?_
  intro p e s m args below meth c s₁ Bd hml0 hP hK
  obtain ⟨rfl, hZ, hh⟩ := hP
  have hx := Bd.exec
  have hby := Bd.bytes
  have hml : c.maxLocals = 3 := hml0
  have hown : s.vm.findClass "java/lang/String" = some m.cls := findClass_of_methodNamed Bd.named
  have hnm := (name_of_methodNamed Bd.named Bd.method).1
  have X0 : Stand p l e ({ frames := 1, cells := 0, slots := 0, locals := 12 } : Room) s m #[(.ref a1), (.ref a2), (.int (0 : Int32))] below meth c s₁ [] 0 0 := Stand.of_body Bd
  have e0 : s₁.heap = h0 := by rw [← hh, Bd.state]; rfl
  have N0 := Fr.nil n0
  have go0 : Go p e below s₁ (mkF m 0 #[.val (.ref a1), .val (.ref a2), .val (.int (0 : Int32))] []) (s₁.setTop (entryFrame m #[(.ref a1), (.ref a2), (.int (0 : Int32))] 3)) := fun t k => castTop (efj_rm_sinit m a1 a2) k
  generalize (s₁.setTop (entryFrame m #[(.ref a1), (.ref a2), (.int (0 : Int32))] 3)) = S0 at go0 ⊢
  have K0 : Keep h0 h0 [a1] := Keep.refl h0 [a1]
  have go125 : Go p e below s₁ (mkF m 1 #[.val (.ref a1), .val (.ref a2), .val (.int (0 : Int32))] [(.ref a1)]) S0 := by
    intro t kt
    refine go0 t ?_
    refine XS.aloadN X0.here hx rfl (hb hby d6_0) rfl rfl ?_
    exact kt
  obtain ⟨T126, X126, e126, st126⟩ := initO X0 hx hZ hown (hw _ (List.mem_of_getElem? (i := 108) rfl)) (hw _ (List.mem_of_getElem? (i := 20) rfl)) (hw _ (List.mem_of_getElem? (i := 21) rfl)) e0 (g := (mkF m 1 #[.val (.ref a1), .val (.ref a2), .val (.int (0 : Int32))] [(.ref a1)])) rfl (by rw [hml]; rfl) rfl (hb hby d6_1) (by decide) (W := 0) (by show 2 * 0 + _ ≤ _; exact Nat.le_of_eq rfl) (by decide)
  have go127 : Go p e below T126 (mkF m 4 #[.val (.ref a1), .val (.ref a2), .val (.int (0 : Int32))] []) S0 := fun t kt => go125 t (st126 _ kt)
  have go128 : Go p e below T126 (mkF m 6 #[.val (.ref a1), .val (.ref a2), .val (.int (0 : Int32))] [(.ref a2), (.ref a1)]) S0 := by
    intro t kt
    refine go127 t ?_
    refine XS.aloadN X126.here hx rfl (hb hby d6_4) rfl rfl ?_
    refine XS.aloadN X126.here hx rfl (hb hby d6_5) rfl rfl ?_
    exact kt
  obtain ⟨T129, h129, X129, e129, W129, st129⟩ := putF X126 hx hZ hown (host := "") (Or.inl (hw _ (List.mem_of_getElem? (i := 109) rfl))) Via.refl e126 F_value_a1 E_a1 (Or.inr ⟨(hw _ (List.mem_of_getElem? (i := 110) rfl)), rfl, hnm⟩) (hw _ (List.mem_of_getElem? (i := 99) rfl)) (ty := (.array .byte)) (by decide) rfl rfl (g := (mkF m 6 #[.val (.ref a1), .val (.ref a2), .val (.int (0 : Int32))] [(.ref a2), (.ref a1)])) rfl rfl (hb hby d6_6)
  have E_a1 := E_a1.wr W129
  have F_coder_a1 := F_coder_a1.other W129 (Or.inr (slot_ne (Or.inr (hw _ (List.mem_of_getElem? (i := 112) rfl))) (Or.inr (hw _ (List.mem_of_getElem? (i := 110) rfl))) (by decide) (t := .byte) (t' := (.array .byte)) (by decide) (by decide)))
  have F_value_a1 := F_value_a1.same W129
  have Z0 := Nat.le_trans Z0 (Keep.of_wr W129).1
  have K0 := K0.wr W129 (Or.inl (List.mem_of_getElem? (i := 0) rfl))
  have N129r := Fr.snoc X129 N0 g_a1
  have go130 : Go p e below T129 (mkF m 9 #[.val (.ref a1), .val (.ref a2), .val (.int (0 : Int32))] []) S0 := fun t kt => go128 t (st129 _ kt)
  have go131 : Go p e below T129 (mkF m 11 #[.val (.ref a1), .val (.ref a2), .val (.int (0 : Int32))] [(.int (0 : Int32)), (.ref a1)]) S0 := by
    intro t kt
    refine go130 t ?_
    refine XS.aloadN X129.here hx rfl (hb hby d6_9) rfl rfl ?_
    refine XS.iloadN X129.here hx rfl (hb hby d6_10) rfl ?_
    exact kt
  obtain ⟨T132, h132, X132, e132, W132, st132⟩ := putFN X129 hx hZ hown (hw _ (List.mem_of_getElem? (i := 111) rfl)) Via.refl e129 F_coder_a1 E_a1 (Or.inr ⟨(hw _ (List.mem_of_getElem? (i := 112) rfl)), rfl, hnm⟩) (hw _ (List.mem_of_getElem? (i := 99) rfl)) (ty := .byte) (v' := (.int (0 : Int32))) (by decide) rfl rfl (g := (mkF m 11 #[.val (.ref a1), .val (.ref a2), .val (.int (0 : Int32))] [(.int (0 : Int32)), (.ref a1)])) rfl rfl (hb hby d6_11)
  have E_a1 := E_a1.wr W132
  have F_value_a1 := F_value_a1.other W132 (Or.inr (slot_ne (Or.inr (hw _ (List.mem_of_getElem? (i := 110) rfl))) (Or.inr (hw _ (List.mem_of_getElem? (i := 112) rfl))) (by decide) (t := (.array .byte)) (t' := .byte) (by decide) (by decide)))
  have F_coder_a1 := F_coder_a1.same W132
  have Z0 := Nat.le_trans Z0 (Keep.of_wr W132).1
  have K0 := K0.wr W132 (Or.inl (List.mem_of_getElem? (i := 0) rfl))
  have N132r := Fr.snoc X132 N129r g_a1
  have go133 : Go p e below T132 (mkF m 14 #[.val (.ref a1), .val (.ref a2), .val (.int (0 : Int32))] []) S0 := fun t kt => go131 t (st132 _ kt)
  obtain ⟨fs, hr, hrun, hended, hW, hsame⟩ := X132.leave (v := none) (fun _ => rfl)
  refine ⟨_, _, go133 _ ?_, hrun, hended, _, _, rfl, ?_, ⟨_, rfl⟩, hW, hsame.mono (by decide) (by decide)⟩
  · show Steps p.tables e below (T132.setTop (mkF m 14 #[.val (.ref a1), .val (.ref a2), .val (.int (0 : Int32))] [])) _
    exact X132.returnOut hx Bd.returns (hb hby d6_14) hr
  · show Q_rm_sinit Z a1 a2 h0 n0 _ T132.heap _
    rw [e132]
    exact ⟨rfl, N132r, K0, E_a1⟩
theorem pnj_7 : plainName "java/lang/String" = true := by first | (simp [plainName, overriddenIn]; done) | decide +kernel
theorem efj_rm_valueOf (m : MethodId) (p1 : Int32) : entryFrame m #[(.int p1)] 1 = mkF m 0 #[.val (.int p1)] [] := by first | (simp [entryFrame, mkF, argsToLocals, Value.category]; done) | rfl
theorem d7_0 : decode jdk_42_method_139_code 0 = .ok (.getstatic 38, 3) := by decide +kernel
theorem d7_3 : decode jdk_42_method_139_code 3 = .ok (.ifCond .eq 23, 3) := by decide +kernel
theorem d7_6 : decode jdk_42_method_139_code 6 = .ok (.iload_n 0, 1) := by decide +kernel
theorem pdj__C_Z : parseMethodDescriptor "(C)Z" = some ⟨[.char], some .boolean⟩ := by decide +kernel
theorem d7_7 : decode jdk_42_method_139_code 7 = .ok (.invokestatic 1015, 3) := by decide +kernel
theorem d7_10 : decode jdk_42_method_139_code 10 = .ok (.ifCond .eq 16, 3) := by decide +kernel
theorem d7_13 : decode jdk_42_method_139_code 13 = .ok (.new 10, 3) := by decide +kernel
theorem d7_16 : decode jdk_42_method_139_code 16 = .ok (.dup, 1) := by decide +kernel
theorem d7_17 : decode jdk_42_method_139_code 17 = .ok (.iload_n 0, 1) := by decide +kernel
theorem pdj__C__B : parseMethodDescriptor "(C)[B" = some ⟨[.char], some (.array .byte)⟩ := by decide +kernel
theorem d7_18 : decode jdk_42_method_139_code 18 = .ok (.invokestatic 1018, 3) := by decide +kernel
theorem d7_21 : decode jdk_42_method_139_code 21 = .ok (.iconst 0, 1) := by decide +kernel
theorem pdj___BB_V : parseMethodDescriptor "([BB)V" = some ⟨[(.array .byte), .byte], none⟩ := by decide +kernel
theorem d7_22 : decode jdk_42_method_139_code 22 = .ok (.invokespecial 209, 3) := by decide +kernel
theorem d7_25 : decode jdk_42_method_139_code 25 = .ok (.areturn, 1) := by decide +kernel
def Q_rm_valueOf (Z : State) (p1 : Int32) (zc : Int32) (h0 : Heap) (n0 : Nat) (v : Option Value) (h : Heap) (L : List Loc) : Prop := ∃ a : Addr, v = some (.ref a) ∧ Fr n0 L ∧ Ext h0 h ∧ Exa Z h a "java/lang/String"
set_option maxRecDepth 65536 in
set_option maxHeartbeats 40000000 in
theorem rm_valueOf (l : Launch) (Z : State) (a0 : Array Value) (hw : ∀ d ∈ tables_1, d.before a0 Z = true) (ws : List Jvm.Cond) (p1 : Int32) (zc : Int32) (h0 : Heap) (n0 : Nat) (Z0 : n0 ≤ h0.size) (hp : ¬ (255 : Int32) < p1) (P5 : ¬ zc = (0 : Int32)) (S_CS : Sta Z h0 "java/lang/String" "COMPACT_STRINGS" "Z" (.int zc)) :
    MetFree l (⟨"java/lang/String", "valueOf", "(C)Ljava/lang/String;"⟩ : MethodName) (head1 (Jvm.Cond.code (⟨"java/lang/String", "valueOf", "(C)Ljava/lang/String;"⟩ : MethodName) jdk_42_method_139_code 1 (some (.object "java/lang/String")) :: ws) ({ frames := 2, cells := 2, slots := 5, locals := 28 } : Room)) (fun a U => a = #[(.int p1)] ∧ Z.Warmed39 U.vm ∧ U.heap = h0) (fun _ _ _ _ _ => True) (fun _ U o U' => ∃ v L, o = .returned v ∧ Q_rm_valueOf Z p1 zc h0 n0 v U'.heap L ∧ FrameEnd U o U' L ({ frames := 2, cells := 2, slots := 5, locals := 28 } : Room).cells ({ frames := 2, cells := 2, slots := 5, locals := 28 } : Room).slots) := by
  refine MetFree.of_bodySF (plainFor_of_name pnj_7) hisR ?_
  intro p e s m args below meth c s₁ Bd hml0 hP hK
  obtain ⟨rfl, hZ, hh⟩ := hP
  have hx := Bd.exec
  have hby := Bd.bytes
  have hml : c.maxLocals = 1 := hml0
  have hown : s.vm.findClass "java/lang/String" = some m.cls := findClass_of_methodNamed Bd.named
  have hnm := (name_of_methodNamed Bd.named Bd.method).1
  have X0 : Stand p l e ({ frames := 2, cells := 2, slots := 5, locals := 28 } : Room) s m #[(.int p1)] below meth c s₁ [] 0 0 := Stand.of_body Bd
  have e0 : s₁.heap = h0 := by rw [← hh, Bd.state]; rfl
  have N0 := Fr.nil n0
  have go0 : Go p e below s₁ (mkF m 0 #[.val (.int p1)] []) (s₁.setTop (entryFrame m #[(.int p1)] 1)) := fun t k => castTop (efj_rm_valueOf m p1) k
  generalize (s₁.setTop (entryFrame m #[(.int p1)] 1)) = S0 at go0 ⊢
  have K0 : Keep h0 h0 [] := Keep.refl h0 []
  obtain ⟨T134, X134, e134, st134⟩ := getS2 X0 hx hZ hown (host := "") (Or.inl (hw _ (List.mem_of_getElem? (i := 93) rfl))) Via.refl e0 S_CS (g := (mkF m 0 #[.val (.int p1)] [])) rfl (hb hby d7_0)
  have go135 : Go p e below T134 (mkF m 3 #[.val (.int p1)] [(.int zc)]) S0 := fun t kt => go0 t (st134 _ kt)
  have go136 : Go p e below T134 (mkF m 7 #[.val (.int p1)] [(.int p1)]) S0 := by
    intro t kt
    refine go135 t ?_
    refine XS.ifNo X134.here hx rfl (hb hby d7_3) rfl ((if0 _ _).trans (feq P5).1) ?_
    refine XS.iloadN X134.here hx rfl (hb hby d7_6) rfl ?_
    exact kt
  obtain ⟨_, _, ⟨T137, L137, k137, n137⟩, -, X137, ⟨Lc137, hQ137, l137, y137, z137⟩, st137⟩ := Jvm.LawKit.callS X134 hx (y := (⟨"java/lang/StringLatin1", "canEncode", "(C)Z"⟩ : MethodName)) hown (mvT hZ (hw _ (List.mem_of_getElem? (i := 94) rfl))) (mvT hZ (hw _ (List.mem_of_getElem? (i := 95) rfl))) (mvT hZ (hw _ (List.mem_of_getElem? (i := 96) rfl))) (mvT hZ (hw _ (List.mem_of_getElem? (i := 97) rfl))) (by decide) (backOf (W := 0) (rm_canEncode l Z a0 hw [] p1 h0 n0 Z0 hp) hZ (hw _ (List.mem_of_getElem? (i := 97) rfl)) (hw _ (List.mem_of_getElem? (i := 96) rfl)) (by decide) (by decide)) (g := (mkF m 7 #[.val (.int p1)] [(.int p1)])) rfl (by rw [hml]; rfl) (argsL := [(.int p1)]) (rest := []) (lenOf pdj__C_Z rfl) rfl (by show 2 * 0 + _ ≤ _; exact Nat.le_of_eq rfl) (hb hby d7_7) (fun _ _ => ⟨rfl, e134, (by decide : 0 + 0 ≤ _), (by decide : 0 + 0 ≤ _)⟩)
  dsimp only [Pt.U, Pt.locs, Pt.cells, Pt.slots] at X137 l137 y137 z137 st137 hQ137
  subst l137 y137 z137
  obtain ⟨rfl, N137q, g137⟩ := hQ137
  have K0 := own_ks g137 K0
  rw [← g137] at Z0
  have N137 := Fr.app N0 N137q
  have go138 : Go p e below T137 (mkF m 10 #[.val (.int p1)] [(.int (1 : Int32))]) S0 := fun t kt => go136 t (st137 _ kt)
  have go139 : Go p e below T137 (mkF m 13 #[.val (.int p1)] []) S0 := by
    intro t kt
    refine go138 t ?_
    refine XS.ifNo X137.here hx rfl (hb hby d7_10) rfl ((if0 _ _).trans (feq (by decide)).1) ?_
    exact kt
  obtain ⟨T140, h140, X140, e140, E140, A140, D140, -, st140⟩ := newO X137 hx hZ hown (hw _ (List.mem_of_getElem? (i := 98) rfl)) (hw _ (List.mem_of_getElem? (i := 99) rfl)) (hw _ (List.mem_of_getElem? (i := 91) rfl)) rfl (g := (mkF m 13 #[.val (.int p1)] [])) rfl (hb hby d7_13) (by decide) (by decide)
  obtain ⟨a, g140⟩ : ∃ z, z = T137.heap.size := ⟨_, rfl⟩
  rw [← g140] at A140 D140 st140
  have g_a : n0 ≤ a := Nat.le_trans Z0 (Nat.le_of_eq g140.symm)
  have sz_a : h0.size ≤ a := Nat.le_trans K0.1 (Nat.le_of_eq g140.symm)
  have Z0 := Nat.le_trans Z0 E140.1
  have K0 := K0.ext E140
  have go141 : Go p e below T140 (mkF m 16 #[.val (.int p1)] [(.ref a)]) S0 := fun t kt => go139 t (st140 _ kt)
  have E_a := A140
  have F_value_a : Fld Z h140 a "java/lang/String" "value" "[B" .null := D140 (Or.inr (hw _ (List.mem_of_getElem? (i := 110) rfl))) (ty := (.array .byte)) (by decide)
  have F_coder_a : Fld Z h140 a "java/lang/String" "coder" "B" (.int (0 : Int32)) := D140 (Or.inr (hw _ (List.mem_of_getElem? (i := 112) rfl))) (ty := .byte) (by decide)
  have go142 : Go p e below T140 (mkF m 18 #[.val (.int p1)] [(.int p1), (.ref a), (.ref a)]) S0 := by
    intro t kt
    refine go141 t ?_
    refine XS.dup X140.here hx rfl (hb hby d7_16) rfl rfl ?_
    refine XS.iloadN X140.here hx rfl (hb hby d7_17) rfl ?_
    exact kt
  obtain ⟨_, _, ⟨T143, L143, k143, n143⟩, -, X143, ⟨Lc143, hQ143, l143, y143, z143⟩, st143⟩ := Jvm.LawKit.callS X140 hx (y := (⟨"java/lang/StringLatin1", "toBytes", "(C)[B"⟩ : MethodName)) hown (mvT hZ (hw _ (List.mem_of_getElem? (i := 100) rfl))) (mvT hZ (hw _ (List.mem_of_getElem? (i := 101) rfl))) (mvT hZ (hw _ (List.mem_of_getElem? (i := 96) rfl))) (mvT hZ (hw _ (List.mem_of_getElem? (i := 102) rfl))) (by decide) (backOf (W := 2) (rm_toBytes l Z a0 hw [] p1 h140 n0 Z0) hZ (hw _ (List.mem_of_getElem? (i := 102) rfl)) (hw _ (List.mem_of_getElem? (i := 96) rfl)) (by decide) (by decide)) (g := (mkF m 18 #[.val (.int p1)] [(.int p1), (.ref a), (.ref a)])) rfl (by rw [hml]; rfl) (argsL := [(.int p1)]) (rest := [(.ref a), (.ref a)]) (lenOf pdj__C__B rfl) rfl (by show 2 * 0 + _ ≤ _; exact Nat.le_of_eq rfl) (hb hby d7_18) (fun _ _ => ⟨rfl, e140, (by decide : 1 + 1 ≤ _), (by decide : 4 + 1 ≤ _)⟩)
  dsimp only [Pt.U, Pt.locs, Pt.cells, Pt.slots] at X143 l143 y143 z143 st143 hQ143
  subst l143 y143 z143
  obtain ⟨b, rfl, N143q, E143⟩ := hQ143
  have E_a := E_a.ext E143
  have F_value_a := F_value_a.ext E143
  have F_coder_a := F_coder_a.ext E143
  have Z0 := Nat.le_trans Z0 E143.1
  have K0 := K0.ext E143
  have N143 := Fr.app N137 N143q
  have go144 : Go p e below T143 (mkF m 21 #[.val (.int p1)] [(.ref b), (.ref a), (.ref a)]) S0 := fun t kt => go142 t (st143 _ kt)
  have go145 : Go p e below T143 (mkF m 22 #[.val (.int p1)] [(.int (0 : Int32)), (.ref b), (.ref a), (.ref a)]) S0 := by
    intro t kt
    refine go144 t ?_
    refine XS.iconst X143.here hx rfl (hb hby d7_21) ?_
    exact kt
  obtain ⟨_, _, ⟨T146, L146, k146, n146⟩, -, X146, ⟨Lc146, hQ146, l146, y146, z146⟩, st146⟩ := X143.specialBack hx (y := (⟨"java/lang/String", "<init>", "([BB)V"⟩ : MethodName)) rfl hown (mvT hZ (hw _ (List.mem_of_getElem? (i := 104) rfl))) (mvT hZ (hw _ (List.mem_of_getElem? (i := 105) rfl))) (mvT hZ (hw _ (List.mem_of_getElem? (i := 107) rfl))) (by decide) (backOf (W := 1) (rm_sinit l Z a0 hw [] a b T143.heap n0 Z0 E_a F_value_a F_coder_a g_a) hZ (hw _ (List.mem_of_getElem? (i := 107) rfl)) (hw _ (List.mem_of_getElem? (i := 91) rfl)) (by decide) (by decide)) (g := (mkF m 22 #[.val (.int p1)] [(.int (0 : Int32)), (.ref b), (.ref a), (.ref a)])) rfl (by rw [hml]; rfl) (Steps.refl _) (a := a) (argsL := [(.ref b), (.int (0 : Int32))]) (rest := [(.ref a)]) (lenOf pdj___BB_V rfl) rfl (by show 2 * 0 + _ ≤ _; exact Nat.le_of_eq rfl) (hb hby d7_22) (fun _ _ => ⟨rfl, rfl, (by decide : 2 + 0 ≤ _), (by decide : 5 + 0 ≤ _)⟩)
  dsimp only [Pt.U, Pt.locs, Pt.cells, Pt.slots] at X146 l146 y146 z146 st146 hQ146
  subst l146 y146 z146
  obtain ⟨rfl, N146q, K146, E146⟩ := hQ146
  have K0 := K0.trans K146 (allS (Or.inr sz_a) all0)
  have Z0 := Nat.le_trans Z0 K146.1
  have E_a := E146
  have N146 := Fr.app N143 N146q
  have go147 : Go p e below T146 (mkF m 25 #[.val (.int p1)] [(.ref a)]) S0 := fun t kt => go145 t (st146.trans kt)
  obtain ⟨fs, hr, hrun, hended, hW, hsame⟩ := X146.leave (v := some (.ref a)) (fun h => by rw [Bd.returns] at h; cases h)
  refine ⟨_, _, go147 _ ?_, hrun, hended, _, _, rfl, ?_, ⟨_, rfl⟩, hW, hsame.mono (by decide) (by decide)⟩
  · show Steps p.tables e below (T146.setTop (mkF m 25 #[.val (.int p1)] [(.ref a)])) _
    jvm_step X146.here [X146.here.top, hx, (hb hby d7_25), X146.method', Bd.returns, Value.isRef, FieldType.isReference]
    first | (intro acts; rw [hr _ acts rfl rfl rfl]) | rw [hr _ _ rfl rfl rfl]
    exact Steps.refl _
  · show Q_rm_valueOf Z p1 zc h0 n0 _ T146.heap _
    exact ⟨a, rfl, N146, own_ext K0, E_a⟩
theorem efj_rm_max (m : MethodId)  : entryFrame m #[(.int (10 : Int32)), (.int (1 : Int32))] 2 = mkF m 0 #[.val (.int (10 : Int32)), .val (.int (1 : Int32))] [] := by first | (simp [entryFrame, mkF, argsToLocals, Value.category]; done) | rfl
theorem d8_0 : decode jdk_29_method_65_code 0 = .ok (.iload_n 0, 1) := by decide +kernel
theorem d8_1 : decode jdk_29_method_65_code 1 = .ok (.iload_n 1, 1) := by decide +kernel
theorem d8_2 : decode jdk_29_method_65_code 2 = .ok (.if_icmp .lt 7, 3) := by decide +kernel
theorem d8_5 : decode jdk_29_method_65_code 5 = .ok (.iload_n 0, 1) := by decide +kernel
theorem d8_6 : decode jdk_29_method_65_code 6 = .ok (.goto 4, 3) := by decide +kernel
theorem d8_10 : decode jdk_29_method_65_code 10 = .ok (.ireturn, 1) := by decide +kernel
def Q_rm_max (Z : State)  (h0 : Heap) (n0 : Nat) (v : Option Value) (h : Heap) (L : List Loc) : Prop := v = some (.int (10 : Int32)) ∧ Fr n0 L ∧ h = h0
set_option maxRecDepth 65536 in
set_option maxHeartbeats 40000000 in
theorem rm_max (l : Launch) (Z : State) (a0 : Array Value) (hw : ∀ d ∈ tables_1, d.before a0 Z = true) (ws : List Jvm.Cond)  (h0 : Heap) (n0 : Nat) (Z0 : n0 ≤ h0.size) :
    MetFree l (⟨"java/lang/Math", "max", "(II)I"⟩ : MethodName) (head1 (Jvm.Cond.code (⟨"java/lang/Math", "max", "(II)I"⟩ : MethodName) jdk_29_method_65_code 2 (some .int) :: ws) ({ frames := 0, cells := 0, slots := 0, locals := 0 } : Room)) (fun a U => a = #[(.int (10 : Int32)), (.int (1 : Int32))] ∧ Z.Warmed39 U.vm ∧ U.heap = h0) (fun _ _ _ _ _ => True) (fun _ U o U' => ∃ v L, o = .returned v ∧ Q_rm_max Z  h0 n0 v U'.heap L ∧ FrameEnd U o U' L ({ frames := 0, cells := 0, slots := 0, locals := 0 } : Room).cells ({ frames := 0, cells := 0, slots := 0, locals := 0 } : Room).slots) := by
  refine MetFree.of_bodySF (Jvm.Free.JP.mathPlain rfl (by decide +kernel)) hisR ?_
  intro p e s m args below meth c s₁ Bd hml0 hP hK
  obtain ⟨rfl, hZ, hh⟩ := hP
  have hx := Bd.exec
  have hby := Bd.bytes
  have hml : c.maxLocals = 2 := hml0
  have hown : s.vm.findClass "java/lang/Math" = some m.cls := findClass_of_methodNamed Bd.named
  have hnm := (name_of_methodNamed Bd.named Bd.method).1
  have X0 : Stand p l e ({ frames := 0, cells := 0, slots := 0, locals := 0 } : Room) s m #[(.int (10 : Int32)), (.int (1 : Int32))] below meth c s₁ [] 0 0 := Stand.of_body Bd
  have e0 : s₁.heap = h0 := by rw [← hh, Bd.state]; rfl
  have N0 := Fr.nil n0
  have go0 : Go p e below s₁ (mkF m 0 #[.val (.int (10 : Int32)), .val (.int (1 : Int32))] []) (s₁.setTop (entryFrame m #[(.int (10 : Int32)), (.int (1 : Int32))] 2)) := fun t k => castTop (efj_rm_max m ) k
  generalize (s₁.setTop (entryFrame m #[(.int (10 : Int32)), (.int (1 : Int32))] 2)) = S0 at go0 ⊢
  have go148 : Go p e below s₁ (mkF m 10 #[.val (.int (10 : Int32)), .val (.int (1 : Int32))] [(.int (10 : Int32))]) S0 := by
    intro t kt
    refine go0 t ?_
    refine XS.iloadN X0.here hx rfl (hb hby d8_0) rfl ?_
    refine XS.iloadN X0.here hx rfl (hb hby d8_1) rfl ?_
    refine XS.icmpNo X0.here hx rfl (hb hby d8_2) rfl (flt (by decide)).1 ?_
    refine XS.iloadN X0.here hx rfl (hb hby d8_5) rfl ?_
    refine XS.goto X0.here hx rfl (pc0 := 6) (pc' := 10) rfl (hb hby d8_6) (by decide) (by decide) ?_
    exact kt
  obtain ⟨fs, hr, hrun, hended, hW, hsame⟩ := X0.leave (v := some (.int (10 : Int32))) (fun h => by rw [Bd.returns] at h; cases h)
  refine ⟨_, _, go148 _ ?_, hrun, hended, _, _, rfl, ?_, ⟨_, rfl⟩, hW, hsame.mono (by decide) (by decide)⟩
  · show Steps p.tables e below (s₁.setTop (mkF m 10 #[.val (.int (10 : Int32)), .val (.int (1 : Int32))] [(.int (10 : Int32))])) _
    exact retI X0 hx Bd.returns (hb hby d8_10) hr
  · show Q_rm_max Z  h0 n0 _ s₁.heap _
    rw [e0]
    exact ⟨rfl, N0, rfl⟩
theorem pnj_9 : plainName "java/util/ArrayList" = true := by first | (simp [plainName, overriddenIn]; done) | decide +kernel
theorem efj_rm_growI (m : MethodId) (a1 : Addr) : entryFrame m #[(.ref a1), (.int (1 : Int32))] 4 = mkF m 0 #[.val (.ref a1), .val (.int (1 : Int32)), .unset, .unset] [] := by first | (simp [entryFrame, mkF, argsToLocals, Value.category]; done) | rfl
theorem d9_0 : decode jdk_38_method_6_code 0 = .ok (.aload_n 0, 1) := by decide +kernel
theorem d9_1 : decode jdk_38_method_6_code 1 = .ok (.getfield 9, 3) := by decide +kernel
theorem d9_4 : decode jdk_38_method_6_code 4 = .ok (.arraylength, 1) := by decide +kernel
theorem d9_5 : decode jdk_38_method_6_code 5 = .ok (.istore_n 2, 1) := by decide +kernel
theorem d9_6 : decode jdk_38_method_6_code 6 = .ok (.iload_n 2, 1) := by decide +kernel
theorem d9_7 : decode jdk_38_method_6_code 7 = .ok (.ifCond .gt 13, 3) := by decide +kernel
theorem d9_10 : decode jdk_38_method_6_code 10 = .ok (.aload_n 0, 1) := by decide +kernel
theorem d9_11 : decode jdk_38_method_6_code 11 = .ok (.getfield 9, 3) := by decide +kernel
theorem d9_14 : decode jdk_38_method_6_code 14 = .ok (.getstatic 39, 3) := by decide +kernel
theorem d9_17 : decode jdk_38_method_6_code 17 = .ok (.if_acmp .eq 28, 3) := by decide +kernel
theorem d9_45 : decode jdk_38_method_6_code 45 = .ok (.aload_n 0, 1) := by decide +kernel
theorem d9_46 : decode jdk_38_method_6_code 46 = .ok (.bipush 10, 2) := by decide +kernel
theorem d9_48 : decode jdk_38_method_6_code 48 = .ok (.iload_n 1, 1) := by decide +kernel
theorem pdj__II_I : parseMethodDescriptor "(II)I" = some ⟨[.int, .int], some .int⟩ := by decide +kernel
theorem d9_49 : decode jdk_38_method_6_code 49 = .ok (.invokestatic 79, 3) := by decide +kernel
theorem d9_52 : decode jdk_38_method_6_code 52 = .ok (.anewarray 7, 3) := by decide +kernel
theorem d9_55 : decode jdk_38_method_6_code 55 = .ok (.dup_x1, 1) := by decide +kernel
theorem d9_56 : decode jdk_38_method_6_code 56 = .ok (.putfield 9, 3) := by decide +kernel
theorem d9_59 : decode jdk_38_method_6_code 59 = .ok (.areturn, 1) := by decide +kernel
def Q_rm_growI (Z : State) (a1 : Addr) (dc : Addr) (kd : ClassId) (mc : Int32) (h0 : Heap) (n0 : Nat) (v : Option Value) (h : Heap) (L : List Loc) : Prop := ∃ (b : Addr) (k : ClassId), v = some (.ref b) ∧ Fr n0 L ∧ Keep h0 h [a1] ∧ h0.size ≤ b ∧ Exa Z h a1 "java/util/ArrayList" ∧ Fld Z h a1 "java/util/AbstractList" "modCount" "I" (.int mc) ∧ Fld Z h a1 "java/util/ArrayList" "elementData" "[Ljava/lang/Object;" (.ref b) ∧ Fld Z h a1 "java/util/ArrayList" "size" "I" (.int (0 : Int32)) ∧ n0 ≤ b ∧ a1 ≠ b ∧ Arv Z h b k (.object "java/lang/Object") (10 : Int32) [.null, .null, .null, .null, .null, .null, .null, .null, .null, .null] .null ∧ Exa Z h b "[Ljava/lang/Object;" ∧ Ovr Z k "java/lang/Object"
set_option maxRecDepth 65536 in
set_option maxHeartbeats 40000000 in
theorem rm_growI (l : Launch) (Z : State) (a0 : Array Value) (hw : ∀ d ∈ tables_1, d.before a0 Z = true) (ws : List Jvm.Cond) (a1 : Addr) (dc : Addr) (kd : ClassId) (mc : Int32) (h0 : Heap) (n0 : Nat) (Z0 : n0 ≤ h0.size) (O0 : Ext Z.heap h0) (hn0 : Z.heap.size ≤ n0) (ne_dc_a1p : dc ≠ a1) (S_DC : Sta Z Z.heap "java/util/ArrayList" "DEFAULTCAPACITY_EMPTY_ELEMENTDATA" "[Ljava/lang/Object;" (.ref dc)) (V_dc : Arv Z h0 dc kd (.object "java/lang/Object") (0 : Int32) [] .null) (E_a1 : Exa Z h0 a1 "java/util/ArrayList") (F_modCount_a1 : Fld Z h0 a1 "java/util/AbstractList" "modCount" "I" (.int mc)) (F_elementData_a1 : Fld Z h0 a1 "java/util/ArrayList" "elementData" "[Ljava/lang/Object;" (.ref dc)) (F_size_a1 : Fld Z h0 a1 "java/util/ArrayList" "size" "I" (.int (0 : Int32))) (g_a1 : n0 ≤ a1) :
    MetFree l (⟨"java/util/ArrayList", "grow", "(I)[Ljava/lang/Object;"⟩ : MethodName) (head1 (Jvm.Cond.code (⟨"java/util/ArrayList", "grow", "(I)[Ljava/lang/Object;"⟩ : MethodName) jdk_38_method_6_code 4 (some (.array (.object "java/lang/Object"))) :: ws) ({ frames := 1, cells := 1, slots := 10, locals := 14 } : Room)) (fun a U => a = #[(.ref a1), (.int (1 : Int32))] ∧ Z.Warmed39 U.vm ∧ U.heap = h0) (fun _ _ _ _ _ => True) (fun _ U o U' => ∃ v L, o = .returned v ∧ Q_rm_growI Z a1 dc kd mc h0 n0 v U'.heap L ∧ FrameEnd U o U' L ({ frames := 1, cells := 1, slots := 10, locals := 14 } : Room).cells ({ frames := 1, cells := 1, slots := 10, locals := 14 } : Room).slots) := by
  refine MetFree.of_bodySF (plainFor_of_name pnj_9) hisR ?_
  intro p e s m args below meth c s₁ Bd hml0 hP hK
  obtain ⟨rfl, hZ, hh⟩ := hP
  have hx := Bd.exec
  have hby := Bd.bytes
  have hml : c.maxLocals = 4 := hml0
  have hown : s.vm.findClass "java/util/ArrayList" = some m.cls := findClass_of_methodNamed Bd.named
  have hnm := (name_of_methodNamed Bd.named Bd.method).1
  have X0 : Stand p l e ({ frames := 1, cells := 1, slots := 10, locals := 14 } : Room) s m #[(.ref a1), (.int (1 : Int32))] below meth c s₁ [] 0 0 := Stand.of_body Bd
  have e0 : s₁.heap = h0 := by rw [← hh, Bd.state]; rfl
  have N0 := Fr.nil n0
  have go0 : Go p e below s₁ (mkF m 0 #[.val (.ref a1), .val (.int (1 : Int32)), .unset, .unset] []) (s₁.setTop (entryFrame m #[(.ref a1), (.int (1 : Int32))] 4)) := fun t k => castTop (efj_rm_growI m a1) k
  generalize (s₁.setTop (entryFrame m #[(.ref a1), (.int (1 : Int32))] 4)) = S0 at go0 ⊢
  have K0 : Keep h0 h0 [a1] := Keep.refl h0 [a1]
  have S_DC := S_DC.ext O0
  have go149 : Go p e below s₁ (mkF m 1 #[.val (.ref a1), .val (.int (1 : Int32)), .unset, .unset] [(.ref a1)]) S0 := by
    intro t kt
    refine go0 t ?_
    refine XS.aloadN X0.here hx rfl (hb hby d9_0) rfl rfl ?_
    exact kt
  obtain ⟨T150, X150, e150, st150⟩ := getF X0 hx hZ hown (host := "") (Or.inl (hw _ (List.mem_of_getElem? (i := 25) rfl))) Via.refl e0 F_elementData_a1 (g := (mkF m 1 #[.val (.ref a1), .val (.int (1 : Int32)), .unset, .unset] [(.ref a1)])) rfl rfl (hb hby d9_1)
  have go151 : Go p e below T150 (mkF m 4 #[.val (.ref a1), .val (.int (1 : Int32)), .unset, .unset] [(.ref dc)]) S0 := fun t kt => go149 t (st150 _ kt)
  obtain ⟨cl152, Ar152, q152, S152, N152, H152, G152⟩ := id V_dc
  have go153 : Go p e below T150 (mkF m 11 #[.val (.ref a1), .val (.int (1 : Int32)), .val (.int (0 : Int32)), .unset] [(.ref a1)]) S0 := by
    intro t kt
    refine go151 t ?_
    refine X150.arraylength hx (by rw [e150]; exact Ar152.1) (State.isArrayOf_alike hZ.alike Ar152.2.1) (g := (mkF m 4 #[.val (.ref a1), .val (.int (1 : Int32)), .unset, .unset] [(.ref dc)])) rfl rfl (hb hby d9_4) _ ?_
    rw [len_of S152 N152]
    refine XS.istoreN X150.here hx rfl (hb hby d9_5) rfl (l' := #[.val (.ref a1), .val (.int (1 : Int32)), .val (.int (0 : Int32)), .unset]) rfl ?_
    refine XS.iloadN X150.here hx rfl (hb hby d9_6) rfl ?_
    refine XS.ifNo X150.here hx rfl (hb hby d9_7) rfl ((if0 _ _).trans (flt (by decide)).2.2.1) ?_
    refine XS.aloadN X150.here hx rfl (hb hby d9_10) rfl rfl ?_
    exact kt
  obtain ⟨T154, X154, e154, st154⟩ := getF X150 hx hZ hown (host := "") (Or.inl (hw _ (List.mem_of_getElem? (i := 25) rfl))) Via.refl e150 F_elementData_a1 (g := (mkF m 11 #[.val (.ref a1), .val (.int (1 : Int32)), .val (.int (0 : Int32)), .unset] [(.ref a1)])) rfl rfl (hb hby d9_11)
  have go155 : Go p e below T154 (mkF m 14 #[.val (.ref a1), .val (.int (1 : Int32)), .val (.int (0 : Int32)), .unset] [(.ref dc)]) S0 := fun t kt => go153 t (st154 _ kt)
  obtain ⟨T156, X156, e156, st156⟩ := getS2 X154 hx hZ hown (host := "") (Or.inl (hw _ (List.mem_of_getElem? (i := 24) rfl))) Via.refl e154 S_DC (g := (mkF m 14 #[.val (.ref a1), .val (.int (1 : Int32)), .val (.int (0 : Int32)), .unset] [(.ref dc)])) rfl (hb hby d9_14)
  have go157 : Go p e below T156 (mkF m 17 #[.val (.ref a1), .val (.int (1 : Int32)), .val (.int (0 : Int32)), .unset] [(.ref dc), (.ref dc)]) S0 := fun t kt => go155 t (st156 _ kt)
  have go158 : Go p e below T156 (mkF m 49 #[.val (.ref a1), .val (.int (1 : Int32)), .val (.int (0 : Int32)), .unset] [(.int (1 : Int32)), (.int (10 : Int32)), (.ref a1)]) S0 := by
    intro t kt
    refine go157 t ?_
    refine Jvm.RoadKit.acmp (g := (mkF m 17 #[.val (.ref a1), .val (.int (1 : Int32)), .val (.int (0 : Int32)), .unset] [(.ref dc), (.ref dc)])) X156 hx rfl rfl rfl (pc0 := 17) (pc' := 45) (same := true) rfl (hb hby d9_17) rfl (decide_eq_true rfl) (by decide) (by decide) ?_
    refine XS.aloadN X156.here hx rfl (hb hby d9_45) rfl rfl ?_
    refine XS.bipush X156.here hx rfl (hb hby d9_46) ?_
    refine XS.iloadN X156.here hx rfl (hb hby d9_48) rfl ?_
    exact kt
  obtain ⟨_, _, ⟨T159, L159, k159, n159⟩, -, X159, ⟨Lc159, hQ159, l159, y159, z159⟩, st159⟩ := Jvm.LawKit.callS X156 hx (y := (⟨"java/lang/Math", "max", "(II)I"⟩ : MethodName)) hown (mvT hZ (hw _ (List.mem_of_getElem? (i := 135) rfl))) (mvT hZ (hw _ (List.mem_of_getElem? (i := 136) rfl))) (mvT hZ (hw _ (List.mem_of_getElem? (i := 137) rfl))) (mvT hZ (hw _ (List.mem_of_getElem? (i := 138) rfl))) (by decide) (backOf (W := 1) (rm_max l Z a0 hw []  h0 n0 Z0) hZ (hw _ (List.mem_of_getElem? (i := 138) rfl)) (hw _ (List.mem_of_getElem? (i := 137) rfl)) (by decide) (by decide)) (g := (mkF m 49 #[.val (.ref a1), .val (.int (1 : Int32)), .val (.int (0 : Int32)), .unset] [(.int (1 : Int32)), (.int (10 : Int32)), (.ref a1)])) rfl (by rw [hml]; rfl) (argsL := [(.int (10 : Int32)), (.int (1 : Int32))]) (rest := [(.ref a1)]) (lenOf pdj__II_I rfl) rfl (by show 2 * 0 + _ ≤ _; exact Nat.le_of_eq rfl) (hb hby d9_49) (fun _ _ => ⟨rfl, e156, (by decide : 0 + 0 ≤ _), (by decide : 0 + 0 ≤ _)⟩)
  dsimp only [Pt.U, Pt.locs, Pt.cells, Pt.slots] at X159 l159 y159 z159 st159 hQ159
  subst l159 y159 z159
  obtain ⟨rfl, N159q, g159⟩ := hQ159
  have K0 := own_ks g159 K0
  rw [← g159] at E_a1 F_modCount_a1 F_elementData_a1 F_size_a1 Z0
  have N159 := Fr.app N0 N159q
  have go160 : Go p e below T159 (mkF m 52 #[.val (.ref a1), .val (.int (1 : Int32)), .val (.int (0 : Int32)), .unset] [(.int (10 : Int32)), (.ref a1)]) S0 := fun t kt => go158 t (st159 _ kt)
  obtain ⟨T161, h161, k161, X161, e161, E161, A161, EX161, O_b, st161⟩ := newRE X159 hx hZ hown (hw _ (List.mem_of_getElem? (i := 139) rfl)) (hw _ (List.mem_of_getElem? (i := 140) rfl)) rfl (g := (mkF m 52 #[.val (.ref a1), .val (.int (1 : Int32)), .val (.int (0 : Int32)), .unset] [(.int (10 : Int32)), (.ref a1)])) rfl (hb hby d9_52) rfl (by decide) (cap := 10) (by decide) (by decide) (by decide) (by decide) (ad := "[Ljava/lang/Object;") (by decide +kernel)
  obtain ⟨b, g161⟩ : ∃ z, z = T159.heap.size := ⟨_, rfl⟩
  rw [← g161] at A161 EX161 st161
  have g_b : n0 ≤ b := Nat.le_trans Z0 (Nat.le_of_eq g161.symm)
  have sz_b : h0.size ≤ b := Nat.le_trans K0.1 (Nat.le_of_eq g161.symm)
  have ne_a1_b : a1 ≠ b := Nat.ne_of_lt (Nat.lt_of_lt_of_le E_a1.lt (Nat.le_of_eq g161.symm))
  have ne_b_a1 := ne_a1_b.symm
  have E_a1 := E_a1.ext E161
  have F_modCount_a1 := F_modCount_a1.ext E161
  have F_elementData_a1 := F_elementData_a1.ext E161
  have F_size_a1 := F_size_a1.ext E161
  have Z0 := Nat.le_trans Z0 E161.1
  have K0 := K0.ext E161
  have go162 : Go p e below T161 (mkF m 55 #[.val (.ref a1), .val (.int (1 : Int32)), .val (.int (0 : Int32)), .unset] [(.ref b), (.ref a1)]) S0 := fun t kt => go160 t (st161 _ kt)
  have V_b : Arv Z h161 b k161 (.object "java/lang/Object") (10 : Int32) [.null, .null, .null, .null, .null, .null, .null, .null, .null, .null] .null := (Arv.new A161 (by decide)).pad (pad_rep [] .null 10)
  have E_b := EX161
  have go163 : Go p e below T161 (mkF m 56 #[.val (.ref a1), .val (.int (1 : Int32)), .val (.int (0 : Int32)), .unset] [(.ref b), (.ref a1), (.ref b)]) S0 := by
    intro t kt
    refine go162 t ?_
    refine XS.dupX1 X161.here hx rfl (hb hby d9_55) rfl rfl rfl ?_
    exact kt
  obtain ⟨T164, h164, X164, e164, W164, st164⟩ := putF X161 hx hZ hown (host := "") (Or.inl (hw _ (List.mem_of_getElem? (i := 25) rfl))) Via.refl e161 F_elementData_a1 E_a1 (Or.inl (hw _ (List.mem_of_getElem? (i := 26) rfl))) (hw _ (List.mem_of_getElem? (i := 2) rfl)) (ty := (.array (.object "java/lang/Object"))) (by decide) rfl rfl (g := (mkF m 56 #[.val (.ref a1), .val (.int (1 : Int32)), .val (.int (0 : Int32)), .unset] [(.ref b), (.ref a1), (.ref b)])) rfl rfl (hb hby d9_56)
  have E_a1 := E_a1.wr W164
  have F_modCount_a1 := F_modCount_a1.other W164 (Or.inr (slot_ne (Or.inl (hw _ (List.mem_of_getElem? (i := 23) rfl))) (Or.inl (hw _ (List.mem_of_getElem? (i := 26) rfl))) (by decide) (t := .int) (t' := (.array (.object "java/lang/Object"))) (by decide) (by decide)))
  have F_size_a1 := F_size_a1.other W164 (Or.inr (slot_ne (Or.inl (hw _ (List.mem_of_getElem? (i := 58) rfl))) (Or.inl (hw _ (List.mem_of_getElem? (i := 26) rfl))) (by decide) (t := .int) (t' := (.array (.object "java/lang/Object"))) (by decide) (by decide)))
  have V_b := V_b.other W164 ne_b_a1
  have E_b := E_b.wr W164
  have F_elementData_a1 := F_elementData_a1.same W164
  have Z0 := Nat.le_trans Z0 (Keep.of_wr W164).1
  have K0 := K0.wr W164 (Or.inl (List.mem_of_getElem? (i := 0) rfl))
  have N164r := Fr.snoc X164 N159 g_a1
  have go165 : Go p e below T164 (mkF m 59 #[.val (.ref a1), .val (.int (1 : Int32)), .val (.int (0 : Int32)), .unset] [(.ref b)]) S0 := fun t kt => go163 t (st164 _ kt)
  obtain ⟨fs, hr, hrun, hended, hW, hsame⟩ := X164.leave (v := some (.ref b)) (fun h => by rw [Bd.returns] at h; cases h)
  refine ⟨_, _, go165 _ ?_, hrun, hended, _, _, rfl, ?_, ⟨_, rfl⟩, hW, hsame.mono (by decide) (by decide)⟩
  · show Steps p.tables e below (T164.setTop (mkF m 59 #[.val (.ref a1), .val (.int (1 : Int32)), .val (.int (0 : Int32)), .unset] [(.ref b)])) _
    jvm_step X164.here [X164.here.top, hx, (hb hby d9_59), X164.method', Bd.returns, Value.isRef, FieldType.isReference]
    first | (intro acts; rw [hr _ acts rfl rfl rfl]) | rw [hr _ _ rfl rfl rfl]
    exact Steps.refl _
  · show Q_rm_growI Z a1 dc kd mc h0 n0 _ T164.heap _
    rw [e164]
    exact ⟨b, k161, rfl, N164r, K0, sz_b, E_a1, F_modCount_a1, F_elementData_a1, F_size_a1, g_b, ne_a1_b, V_b, E_b, O_b⟩
theorem pnj_10 : plainName "java/util/ArrayList" = true := by first | (simp [plainName, overriddenIn]; done) | decide +kernel
theorem efj_rm_grow (m : MethodId) (a1 : Addr) : entryFrame m #[(.ref a1)] 1 = mkF m 0 #[.val (.ref a1)] [] := by first | (simp [entryFrame, mkF, argsToLocals, Value.category]; done) | rfl
theorem d10_0 : decode jdk_38_method_7_code 0 = .ok (.aload_n 0, 1) := by decide +kernel
theorem d10_1 : decode jdk_38_method_7_code 1 = .ok (.aload_n 0, 1) := by decide +kernel
theorem d10_2 : decode jdk_38_method_7_code 2 = .ok (.getfield 48, 3) := by decide +kernel
theorem d10_5 : decode jdk_38_method_7_code 5 = .ok (.iconst 1, 1) := by decide +kernel
theorem d10_6 : decode jdk_38_method_7_code 6 = .ok (.iadd, 1) := by decide +kernel
theorem pdj__I__Ljava_lang_Object_ : parseMethodDescriptor "(I)[Ljava/lang/Object;" = some ⟨[.int], some (.array (.object "java/lang/Object"))⟩ := by decide +kernel
theorem d10_7 : decode jdk_38_method_7_code 7 = .ok (.invokevirtual 69, 3) := by decide +kernel
theorem d10_10 : decode jdk_38_method_7_code 10 = .ok (.areturn, 1) := by decide +kernel
def Q_rm_grow (Z : State) (a1 : Addr) (dc : Addr) (kd : ClassId) (mc : Int32) (h0 : Heap) (n0 : Nat) (v : Option Value) (h : Heap) (L : List Loc) : Prop := ∃ (b : Addr) (k : ClassId), v = some (.ref b) ∧ Fr n0 L ∧ Keep h0 h [a1] ∧ h0.size ≤ b ∧ Exa Z h a1 "java/util/ArrayList" ∧ Fld Z h a1 "java/util/AbstractList" "modCount" "I" (.int mc) ∧ Fld Z h a1 "java/util/ArrayList" "elementData" "[Ljava/lang/Object;" (.ref b) ∧ Fld Z h a1 "java/util/ArrayList" "size" "I" (.int (0 : Int32)) ∧ n0 ≤ b ∧ a1 ≠ b ∧ Arv Z h b k (.object "java/lang/Object") (10 : Int32) [.null, .null, .null, .null, .null, .null, .null, .null, .null, .null] .null ∧ Exa Z h b "[Ljava/lang/Object;" ∧ Ovr Z k "java/lang/Object"
set_option maxRecDepth 65536 in
set_option maxHeartbeats 40000000 in
theorem rm_grow (l : Launch) (Z : State) (a0 : Array Value) (hw : ∀ d ∈ tables_1, d.before a0 Z = true) (ws : List Jvm.Cond) (a1 : Addr) (dc : Addr) (kd : ClassId) (mc : Int32) (h0 : Heap) (n0 : Nat) (Z0 : n0 ≤ h0.size) (O0 : Ext Z.heap h0) (hn0 : Z.heap.size ≤ n0) (ne_dc_a1p : dc ≠ a1) (S_DC : Sta Z Z.heap "java/util/ArrayList" "DEFAULTCAPACITY_EMPTY_ELEMENTDATA" "[Ljava/lang/Object;" (.ref dc)) (V_dc : Arv Z h0 dc kd (.object "java/lang/Object") (0 : Int32) [] .null) (E_a1 : Exa Z h0 a1 "java/util/ArrayList") (F_modCount_a1 : Fld Z h0 a1 "java/util/AbstractList" "modCount" "I" (.int mc)) (F_elementData_a1 : Fld Z h0 a1 "java/util/ArrayList" "elementData" "[Ljava/lang/Object;" (.ref dc)) (F_size_a1 : Fld Z h0 a1 "java/util/ArrayList" "size" "I" (.int (0 : Int32))) (g_a1 : n0 ≤ a1) :
    MetFree l (⟨"java/util/ArrayList", "grow", "()[Ljava/lang/Object;"⟩ : MethodName) (head1 (Jvm.Cond.code (⟨"java/util/ArrayList", "grow", "()[Ljava/lang/Object;"⟩ : MethodName) jdk_38_method_7_code 1 (some (.array (.object "java/lang/Object"))) :: ws) ({ frames := 2, cells := 1, slots := 10, locals := 29 } : Room)) (fun a U => a = #[(.ref a1)] ∧ Z.Warmed39 U.vm ∧ U.heap = h0) (fun _ _ _ _ _ => True) (fun _ U o U' => ∃ v L, o = .returned v ∧ Q_rm_grow Z a1 dc kd mc h0 n0 v U'.heap L ∧ FrameEnd U o U' L ({ frames := 2, cells := 1, slots := 10, locals := 29 } : Room).cells ({ frames := 2, cells := 1, slots := 10, locals := 29 } : Room).slots) := by
  refine MetFree.of_bodySF (plainFor_of_name pnj_10) hisR ?_
  intro p e s m args below meth c s₁ Bd hml0 hP hK
  obtain ⟨rfl, hZ, hh⟩ := hP
  have hx := Bd.exec
  have hby := Bd.bytes
  have hml : c.maxLocals = 1 := hml0
  have hown : s.vm.findClass "java/util/ArrayList" = some m.cls := findClass_of_methodNamed Bd.named
  have hnm := (name_of_methodNamed Bd.named Bd.method).1
  have X0 : Stand p l e ({ frames := 2, cells := 1, slots := 10, locals := 29 } : Room) s m #[(.ref a1)] below meth c s₁ [] 0 0 := Stand.of_body Bd
  have e0 : s₁.heap = h0 := by rw [← hh, Bd.state]; rfl
  have N0 := Fr.nil n0
  have go0 : Go p e below s₁ (mkF m 0 #[.val (.ref a1)] []) (s₁.setTop (entryFrame m #[(.ref a1)] 1)) := fun t k => castTop (efj_rm_grow m a1) k
  generalize (s₁.setTop (entryFrame m #[(.ref a1)] 1)) = S0 at go0 ⊢
  have go166 : Go p e below s₁ (mkF m 2 #[.val (.ref a1)] [(.ref a1), (.ref a1)]) S0 := by
    intro t kt
    refine go0 t ?_
    refine XS.aloadN X0.here hx rfl (hb hby d10_0) rfl rfl ?_
    refine XS.aloadN X0.here hx rfl (hb hby d10_1) rfl rfl ?_
    exact kt
  obtain ⟨T167, X167, e167, st167⟩ := getF X0 hx hZ hown (host := "") (Or.inl (hw _ (List.mem_of_getElem? (i := 57) rfl))) Via.refl e0 F_size_a1 (g := (mkF m 2 #[.val (.ref a1)] [(.ref a1), (.ref a1)])) rfl rfl (hb hby d10_2)
  have go168 : Go p e below T167 (mkF m 5 #[.val (.ref a1)] [(.int (0 : Int32)), (.ref a1)]) S0 := fun t kt => go166 t (st167 _ kt)
  have go169 : Go p e below T167 (mkF m 7 #[.val (.ref a1)] [(.int (1 : Int32)), (.ref a1)]) S0 := by
    intro t kt
    refine go168 t ?_
    refine XS.iconst X167.here hx rfl (hb hby d10_5) ?_
    refine XS.iadd X167.here hx rfl (hb hby d10_6) rfl ?_
    exact kt
  obtain ⟨xc170, xk170, xh170, -, -, xs170, -⟩ := id E_a1
  obtain ⟨_, _, ⟨T170, L170, k170, n170⟩, -, X170, ⟨Lc170, hQ170, l170, y170, z170⟩, st170⟩ := X167.privateBack hx (y := (⟨"java/util/ArrayList", "grow", "(I)[Ljava/lang/Object;"⟩ : MethodName)) hown (mvT hZ (hw _ (List.mem_of_getElem? (i := 130) rfl))) (mvT hZ (hw _ (List.mem_of_getElem? (i := 131) rfl))) (mvT hZ (hw _ (List.mem_of_getElem? (i := 133) rfl))) (Cond.privateMethod_at (args := #[]) (mvT hZ (hw _ (List.mem_of_getElem? (i := 132) rfl)))) (mvT hZ (hw _ (List.mem_of_getElem? (i := 134) rfl))) (by decide) (backOf (W := 0) (rm_growI l Z a0 hw [] a1 dc kd mc h0 n0 Z0 O0 hn0 ne_dc_a1p S_DC V_dc E_a1 F_modCount_a1 F_elementData_a1 F_size_a1 g_a1) hZ (hw _ (List.mem_of_getElem? (i := 134) rfl)) (hw _ (List.mem_of_getElem? (i := 3) rfl)) (by decide) (by decide)) (g := (mkF m 7 #[.val (.ref a1)] [(.int (1 : Int32)), (.ref a1)])) rfl (by rw [hml]; rfl) (Steps.refl _) (a := a1) (by rw [e167]; exact xh170) (VmData.noStatics_of xs170) (argsL := [(.int (1 : Int32))]) (rest := []) (lenOf pdj__I__Ljava_lang_Object_ rfl) rfl (by show 2 * 0 + _ ≤ _; exact Nat.le_of_eq rfl) (hb hby d10_7) (fun _ _ => ⟨rfl, e167, (by decide : 0 + 1 ≤ _), (by decide : 0 + 10 ≤ _)⟩)
  dsimp only [Pt.U, Pt.locs, Pt.cells, Pt.slots] at X170 l170 y170 z170 st170 hQ170
  subst l170 y170 z170
  obtain ⟨b170, kb170, rfl, N170q, K170, sz170, E170, M170, D170, Sz170, gb170, ne170, V170, EX170, O170⟩ := hQ170
  have N170 := Fr.app N0 N170q
  have go171 : Go p e below T170 (mkF m 10 #[.val (.ref a1)] [(.ref b170)]) S0 := fun t kt => go169 t (st170.trans kt)
  obtain ⟨fs, hr, hrun, hended, hW, hsame⟩ := X170.leave (v := some (.ref b170)) (fun h => by rw [Bd.returns] at h; cases h)
  refine ⟨_, _, go171 _ ?_, hrun, hended, _, _, rfl, ?_, ⟨_, rfl⟩, hW, hsame.mono (by decide) (by decide)⟩
  · show Steps p.tables e below (T170.setTop (mkF m 10 #[.val (.ref a1)] [(.ref b170)])) _
    jvm_step X170.here [X170.here.top, hx, (hb hby d10_10), X170.method', Bd.returns, Value.isRef, FieldType.isReference]
    first | (intro acts; rw [hr _ acts rfl rfl rfl]) | rw [hr _ _ rfl rfl rfl]
    exact Steps.refl _
  · show Q_rm_grow Z a1 dc kd mc h0 n0 _ T170.heap _
    exact ⟨b170, kb170, rfl, N170, K170, sz170, E170, M170, D170, Sz170, gb170, ne170, V170, EX170, O170⟩
theorem pnj_11 : plainName "java/util/ArrayList" = true := by first | (simp [plainName, overriddenIn]; done) | decide +kernel
theorem efj_rm_help0 (m : MethodId) (a1 : Addr) (y : Addr) (dc : Addr) : entryFrame m #[(.ref a1), (.ref y), (.ref dc), (.int (0 : Int32))] 4 = mkF m 0 #[.val (.ref a1), .val (.ref y), .val (.ref dc), .val (.int (0 : Int32))] [] := by first | (simp [entryFrame, mkF, argsToLocals, Value.category]; done) | rfl
theorem d11_0 : decode jdk_38_method_24_code 0 = .ok (.iload_n 3, 1) := by decide +kernel
theorem d11_1 : decode jdk_38_method_24_code 1 = .ok (.aload_n 2, 1) := by decide +kernel
theorem d11_2 : decode jdk_38_method_24_code 2 = .ok (.arraylength, 1) := by decide +kernel
theorem d11_3 : decode jdk_38_method_24_code 3 = .ok (.if_icmp .ne 8, 3) := by decide +kernel
theorem d11_6 : decode jdk_38_method_24_code 6 = .ok (.aload_n 0, 1) := by decide +kernel
theorem pdj____Ljava_lang_Object_ : parseMethodDescriptor "()[Ljava/lang/Object;" = some ⟨[], some (.array (.object "java/lang/Object"))⟩ := by decide +kernel
theorem d11_7 : decode jdk_38_method_24_code 7 = .ok (.invokevirtual 129, 3) := by decide +kernel
theorem d11_10 : decode jdk_38_method_24_code 10 = .ok (.astore_n 2, 1) := by decide +kernel
theorem d11_11 : decode jdk_38_method_24_code 11 = .ok (.aload_n 2, 1) := by decide +kernel
theorem d11_12 : decode jdk_38_method_24_code 12 = .ok (.iload_n 3, 1) := by decide +kernel
theorem d11_13 : decode jdk_38_method_24_code 13 = .ok (.aload_n 1, 1) := by decide +kernel
theorem d11_14 : decode jdk_38_method_24_code 14 = .ok (.aastore, 1) := by decide +kernel
theorem d11_15 : decode jdk_38_method_24_code 15 = .ok (.aload_n 0, 1) := by decide +kernel
theorem d11_16 : decode jdk_38_method_24_code 16 = .ok (.iload_n 3, 1) := by decide +kernel
theorem d11_17 : decode jdk_38_method_24_code 17 = .ok (.iconst 1, 1) := by decide +kernel
theorem d11_18 : decode jdk_38_method_24_code 18 = .ok (.iadd, 1) := by decide +kernel
theorem d11_19 : decode jdk_38_method_24_code 19 = .ok (.putfield 48, 3) := by decide +kernel
theorem d11_22 : decode jdk_38_method_24_code 22 = .ok (.return_, 1) := by decide +kernel
def Q_rm_help0 (Z : State) (a1 : Addr) (y : Addr) (dc : Addr) (kd : ClassId) (mc : Int32) (h0 : Heap) (n0 : Nat) (v : Option Value) (h : Heap) (L : List Loc) : Prop := ∃ (b : Addr) (k : ClassId), v = none ∧ Fr n0 L ∧ Keep h0 h [a1] ∧ h0.size ≤ b ∧ Exa Z h a1 "java/util/ArrayList" ∧ Fld Z h a1 "java/util/AbstractList" "modCount" "I" (.int mc) ∧ Fld Z h a1 "java/util/ArrayList" "elementData" "[Ljava/lang/Object;" (.ref b) ∧ Fld Z h a1 "java/util/ArrayList" "size" "I" (.int (1 : Int32)) ∧ n0 ≤ b ∧ a1 ≠ b ∧ Arv Z h b k (.object "java/lang/Object") (10 : Int32) [(.ref y), .null, .null, .null, .null, .null, .null, .null, .null, .null] .null ∧ Exa Z h b "[Ljava/lang/Object;" ∧ Ovr Z k "java/lang/Object"
set_option maxRecDepth 65536 in
set_option maxHeartbeats 40000000 in
theorem rm_help0 (l : Launch) (Z : State) (a0 : Array Value) (hw : ∀ d ∈ tables_1, d.before a0 Z = true) (ws : List Jvm.Cond) (a1 : Addr) (y : Addr) (dc : Addr) (kd : ClassId) (mc : Int32) (h0 : Heap) (n0 : Nat) (Z0 : n0 ≤ h0.size) (O0 : Ext Z.heap h0) (hn0 : Z.heap.size ≤ n0) (ne_dc_a1p : dc ≠ a1) (S_DC : Sta Z Z.heap "java/util/ArrayList" "DEFAULTCAPACITY_EMPTY_ELEMENTDATA" "[Ljava/lang/Object;" (.ref dc)) (V_dc : Arv Z h0 dc kd (.object "java/lang/Object") (0 : Int32) [] .null) (E_a1 : Exa Z h0 a1 "java/util/ArrayList") (F_modCount_a1 : Fld Z h0 a1 "java/util/AbstractList" "modCount" "I" (.int mc)) (F_elementData_a1 : Fld Z h0 a1 "java/util/ArrayList" "elementData" "[Ljava/lang/Object;" (.ref dc)) (F_size_a1 : Fld Z h0 a1 "java/util/ArrayList" "size" "I" (.int (0 : Int32))) (g_a1 : n0 ≤ a1) (E_y : Exa Z h0 y "java/lang/String") :
    MetFree l (⟨"java/util/ArrayList", "add", "(Ljava/lang/Object;[Ljava/lang/Object;I)V"⟩ : MethodName) (head1 (Jvm.Cond.code (⟨"java/util/ArrayList", "add", "(Ljava/lang/Object;[Ljava/lang/Object;I)V"⟩ : MethodName) jdk_38_method_24_code 4 none :: ws) ({ frames := 3, cells := 1, slots := 10, locals := 41 } : Room)) (fun a U => a = #[(.ref a1), (.ref y), (.ref dc), (.int (0 : Int32))] ∧ Z.Warmed39 U.vm ∧ U.heap = h0) (fun _ _ _ _ _ => True) (fun _ U o U' => ∃ v L, o = .returned v ∧ Q_rm_help0 Z a1 y dc kd mc h0 n0 v U'.heap L ∧ FrameEnd U o U' L ({ frames := 3, cells := 1, slots := 10, locals := 41 } : Room).cells ({ frames := 3, cells := 1, slots := 10, locals := 41 } : Room).slots) := by
  refine MetFree.of_bodySF (plainFor_of_name pnj_11) hisR ?_
  intro p e s m args below meth c s₁ Bd hml0 hP hK
  obtain ⟨rfl, hZ, hh⟩ := hP
  have hx := Bd.exec
  have hby := Bd.bytes
  have hml : c.maxLocals = 4 := hml0
  have hown : s.vm.findClass "java/util/ArrayList" = some m.cls := findClass_of_methodNamed Bd.named
  have hnm := (name_of_methodNamed Bd.named Bd.method).1
  have X0 : Stand p l e ({ frames := 3, cells := 1, slots := 10, locals := 41 } : Room) s m #[(.ref a1), (.ref y), (.ref dc), (.int (0 : Int32))] below meth c s₁ [] 0 0 := Stand.of_body Bd
  have e0 : s₁.heap = h0 := by rw [← hh, Bd.state]; rfl
  have N0 := Fr.nil n0
  have go0 : Go p e below s₁ (mkF m 0 #[.val (.ref a1), .val (.ref y), .val (.ref dc), .val (.int (0 : Int32))] []) (s₁.setTop (entryFrame m #[(.ref a1), (.ref y), (.ref dc), (.int (0 : Int32))] 4)) := fun t k => castTop (efj_rm_help0 m a1 y dc) k
  generalize (s₁.setTop (entryFrame m #[(.ref a1), (.ref y), (.ref dc), (.int (0 : Int32))] 4)) = S0 at go0 ⊢
  have K0 : Keep h0 h0 [a1] := Keep.refl h0 [a1]
  have go172 : Go p e below s₁ (mkF m 2 #[.val (.ref a1), .val (.ref y), .val (.ref dc), .val (.int (0 : Int32))] [(.ref dc), (.int (0 : Int32))]) S0 := by
    intro t kt
    refine go0 t ?_
    refine XS.iloadN X0.here hx rfl (hb hby d11_0) rfl ?_
    refine XS.aloadN X0.here hx rfl (hb hby d11_1) rfl rfl ?_
    exact kt
  obtain ⟨cl173, Ar173, q173, S173, N173, H173, G173⟩ := id V_dc
  have go174 : Go p e below s₁ (mkF m 7 #[.val (.ref a1), .val (.ref y), .val (.ref dc), .val (.int (0 : Int32))] [(.ref a1)]) S0 := by
    intro t kt
    refine go172 t ?_
    refine X0.arraylength hx (by rw [e0]; exact Ar173.1) (State.isArrayOf_alike hZ.alike Ar173.2.1) (g := (mkF m 2 #[.val (.ref a1), .val (.ref y), .val (.ref dc), .val (.int (0 : Int32))] [(.ref dc), (.int (0 : Int32))])) rfl rfl (hb hby d11_2) _ ?_
    rw [len_of S173 N173]
    refine XS.icmpNo X0.here hx rfl (hb hby d11_3) rfl (teq rfl).2 ?_
    refine XS.aloadN X0.here hx rfl (hb hby d11_6) rfl rfl ?_
    exact kt
  obtain ⟨xc175, xk175, xh175, -, -, xs175, -⟩ := id E_a1
  obtain ⟨_, _, ⟨T175, L175, k175, n175⟩, -, X175, ⟨Lc175, hQ175, l175, y175, z175⟩, st175⟩ := X0.privateBack hx (y := (⟨"java/util/ArrayList", "grow", "()[Ljava/lang/Object;"⟩ : MethodName)) hown (mvT hZ (hw _ (List.mem_of_getElem? (i := 125) rfl))) (mvT hZ (hw _ (List.mem_of_getElem? (i := 126) rfl))) (mvT hZ (hw _ (List.mem_of_getElem? (i := 128) rfl))) (Cond.privateMethod_at (args := #[]) (mvT hZ (hw _ (List.mem_of_getElem? (i := 127) rfl)))) (mvT hZ (hw _ (List.mem_of_getElem? (i := 129) rfl))) (by decide) (backOf (W := 0) (rm_grow l Z a0 hw [] a1 dc kd mc h0 n0 Z0 O0 hn0 ne_dc_a1p S_DC V_dc E_a1 F_modCount_a1 F_elementData_a1 F_size_a1 g_a1) hZ (hw _ (List.mem_of_getElem? (i := 129) rfl)) (hw _ (List.mem_of_getElem? (i := 3) rfl)) (by decide) (by decide)) (g := (mkF m 7 #[.val (.ref a1), .val (.ref y), .val (.ref dc), .val (.int (0 : Int32))] [(.ref a1)])) rfl (by rw [hml]; rfl) (Steps.refl _) (a := a1) (by rw [e0]; exact xh175) (VmData.noStatics_of xs175) (argsL := []) (rest := []) (lenOf pdj____Ljava_lang_Object_ rfl) rfl (by show 2 * 0 + _ ≤ _; exact Nat.le_of_eq rfl) (hb hby d11_7) (fun _ _ => ⟨rfl, e0, (by decide : 0 + 1 ≤ _), (by decide : 0 + 10 ≤ _)⟩)
  dsimp only [Pt.U, Pt.locs, Pt.cells, Pt.slots] at X175 l175 y175 z175 st175 hQ175
  subst l175 y175 z175
  obtain ⟨b175, kb175, rfl, N175q, K175, sz175, E175, M175, D175, Sz175, gb175, ne175, V175, EX175, O175⟩ := hQ175
  have sz_b175 : h0.size ≤ b175 := Nat.le_trans K0.1 sz175
  have K0 := K0.trans K175 (allS (Or.inl (List.mem_singleton.mpr rfl)) all0)
  have Z0 := Nat.le_trans Z0 K175.1
  have E_a1 := E175
  have F_modCount_a1 := M175
  have F_elementData_a1 := D175
  have F_size_a1 := Sz175
  have E_y := E_y.keep K175
  have V_b175 := V175
  have E_b175 := EX175
  have ne_a1_b175 := ne175
  have ne_b175_a1 := ne175.symm
  have g_b175 := gb175
  have N175 := Fr.app N0 N175q
  have go176 : Go p e below T175 (mkF m 10 #[.val (.ref a1), .val (.ref y), .val (.ref dc), .val (.int (0 : Int32))] [(.ref b175)]) S0 := fun t kt => go174 t (st175.trans kt)
  have go177 : Go p e below T175 (mkF m 14 #[.val (.ref a1), .val (.ref y), .val (.ref b175), .val (.int (0 : Int32))] [(.ref y), (.int (0 : Int32)), (.ref b175)]) S0 := by
    intro t kt
    refine go176 t ?_
    refine XS.astoreN X175.here hx rfl (hb hby d11_10) rfl rfl (l' := #[.val (.ref a1), .val (.ref y), .val (.ref b175), .val (.int (0 : Int32))]) rfl ?_
    refine XS.aloadN X175.here hx rfl (hb hby d11_11) rfl rfl ?_
    refine XS.iloadN X175.here hx rfl (hb hby d11_12) rfl ?_
    refine XS.aloadN X175.here hx rfl (hb hby d11_13) rfl rfl ?_
    exact kt
  obtain ⟨cl178, Ar178, q178, S178, N178, H178, G178⟩ := V_b175
  obtain ⟨T178, h178, X178, e178, W178, st178⟩ := stR X175 hx hZ rfl Ar178 (j := (0 : Int32)) (inb_of S178 ⟨by decide, by decide⟩) rfl (Sto.ofV Ar178 q178 O175 (Ins.of_exa E_y (hw _ (List.mem_of_getElem? (i := 141) rfl)))) (g := (mkF m 14 #[.val (.ref a1), .val (.ref y), .val (.ref b175), .val (.int (0 : Int32))] [(.ref y), (.int (0 : Int32)), (.ref b175)])) rfl rfl (hb hby d11_14)
  have E_a1 := E_a1.wr W178
  have F_modCount_a1 := F_modCount_a1.other W178 (Or.inl ne_a1_b175)
  have F_elementData_a1 := F_elementData_a1.other W178 (Or.inl ne_a1_b175)
  have F_size_a1 := F_size_a1.other W178 (Or.inl ne_a1_b175)
  have E_y := E_y.wr W178
  have E_b175 := E_b175.wr W178
  have V_b175 : Arv Z h178 b175 kb175 (.object "java/lang/Object") (10 : Int32) [(.ref y), .null, .null, .null, .null, .null, .null, .null, .null, .null] .null := Arv.set Ar178 q178 S178 N178 H178 G178 rfl W178 0 rfl (Nat.le_of_ble_eq_true rfl)
  have Z0 := Nat.le_trans Z0 (Keep.of_wr W178).1
  have K0 := K0.wr W178 (Or.inr sz_b175)
  have N178r := Fr.snoc X178 N175 g_b175
  have go179 : Go p e below T178 (mkF m 15 #[.val (.ref a1), .val (.ref y), .val (.ref b175), .val (.int (0 : Int32))] []) S0 := fun t kt => go177 t (st178 _ kt)
  have go180 : Go p e below T178 (mkF m 19 #[.val (.ref a1), .val (.ref y), .val (.ref b175), .val (.int (0 : Int32))] [(.int (1 : Int32)), (.ref a1)]) S0 := by
    intro t kt
    refine go179 t ?_
    refine XS.aloadN X178.here hx rfl (hb hby d11_15) rfl rfl ?_
    refine XS.iloadN X178.here hx rfl (hb hby d11_16) rfl ?_
    refine XS.iconst X178.here hx rfl (hb hby d11_17) ?_
    refine XS.iadd X178.here hx rfl (hb hby d11_18) rfl ?_
    exact kt
  obtain ⟨T181, h181, X181, e181, W181, st181⟩ := putF X178 hx hZ hown (host := "") (Or.inl (hw _ (List.mem_of_getElem? (i := 57) rfl))) Via.refl e178 F_size_a1 E_a1 (Or.inl (hw _ (List.mem_of_getElem? (i := 58) rfl))) (hw _ (List.mem_of_getElem? (i := 2) rfl)) (ty := .int) (by decide) rfl rfl (g := (mkF m 19 #[.val (.ref a1), .val (.ref y), .val (.ref b175), .val (.int (0 : Int32))] [(.int (1 : Int32)), (.ref a1)])) rfl rfl (hb hby d11_19)
  have E_a1 := E_a1.wr W181
  have F_modCount_a1 := F_modCount_a1.other W181 (Or.inr (slot_ne (Or.inl (hw _ (List.mem_of_getElem? (i := 23) rfl))) (Or.inl (hw _ (List.mem_of_getElem? (i := 58) rfl))) (by decide) (t := .int) (t' := .int) (by decide) (by decide)))
  have F_elementData_a1 := F_elementData_a1.other W181 (Or.inr (slot_ne (Or.inl (hw _ (List.mem_of_getElem? (i := 26) rfl))) (Or.inl (hw _ (List.mem_of_getElem? (i := 58) rfl))) (by decide) (t := (.array (.object "java/lang/Object"))) (t' := .int) (by decide) (by decide)))
  have E_y := E_y.wr W181
  have V_b175 := V_b175.other W181 ne_b175_a1
  have E_b175 := E_b175.wr W181
  have F_size_a1 := F_size_a1.same W181
  have Z0 := Nat.le_trans Z0 (Keep.of_wr W181).1
  have K0 := K0.wr W181 (Or.inl (List.mem_of_getElem? (i := 0) rfl))
  have N181r := Fr.snoc X181 N178r g_a1
  have go182 : Go p e below T181 (mkF m 22 #[.val (.ref a1), .val (.ref y), .val (.ref b175), .val (.int (0 : Int32))] []) S0 := fun t kt => go180 t (st181 _ kt)
  obtain ⟨fs, hr, hrun, hended, hW, hsame⟩ := X181.leave (v := none) (fun _ => rfl)
  refine ⟨_, _, go182 _ ?_, hrun, hended, _, _, rfl, ?_, ⟨_, rfl⟩, hW, hsame.mono (by decide) (by decide)⟩
  · show Steps p.tables e below (T181.setTop (mkF m 22 #[.val (.ref a1), .val (.ref y), .val (.ref b175), .val (.int (0 : Int32))] [])) _
    exact X181.returnOut hx Bd.returns (hb hby d11_22) hr
  · show Q_rm_help0 Z a1 y dc kd mc h0 n0 _ T181.heap _
    rw [e181]
    exact ⟨b175, kb175, rfl, N181r, K0, sz_b175, E_a1, F_modCount_a1, F_elementData_a1, F_size_a1, g_b175, ne_a1_b175, V_b175, E_b175, O175⟩
theorem pnj_12 : plainName "java/util/ArrayList" = true := by first | (simp [plainName, overriddenIn]; done) | decide +kernel
theorem efj_rm_add0 (m : MethodId) (a1 : Addr) (y : Addr) : entryFrame m #[(.ref a1), (.ref y)] 2 = mkF m 0 #[.val (.ref a1), .val (.ref y)] [] := by first | (simp [entryFrame, mkF, argsToLocals, Value.category]; done) | rfl
theorem d12_0 : decode jdk_38_method_25_code 0 = .ok (.aload_n 0, 1) := by decide +kernel
theorem d12_1 : decode jdk_38_method_25_code 1 = .ok (.dup, 1) := by decide +kernel
theorem d12_2 : decode jdk_38_method_25_code 2 = .ok (.getfield 63, 3) := by decide +kernel
theorem d12_5 : decode jdk_38_method_25_code 5 = .ok (.iconst 1, 1) := by decide +kernel
theorem d12_6 : decode jdk_38_method_25_code 6 = .ok (.iadd, 1) := by decide +kernel
theorem d12_7 : decode jdk_38_method_25_code 7 = .ok (.putfield 63, 3) := by decide +kernel
theorem d12_10 : decode jdk_38_method_25_code 10 = .ok (.aload_n 0, 1) := by decide +kernel
theorem d12_11 : decode jdk_38_method_25_code 11 = .ok (.aload_n 1, 1) := by decide +kernel
theorem d12_12 : decode jdk_38_method_25_code 12 = .ok (.aload_n 0, 1) := by decide +kernel
theorem d12_13 : decode jdk_38_method_25_code 13 = .ok (.getfield 9, 3) := by decide +kernel
theorem d12_16 : decode jdk_38_method_25_code 16 = .ok (.aload_n 0, 1) := by decide +kernel
theorem d12_17 : decode jdk_38_method_25_code 17 = .ok (.getfield 48, 3) := by decide +kernel
theorem pdj__Ljava_lang_Object__Ljava_lang_Object_I_V : parseMethodDescriptor "(Ljava/lang/Object;[Ljava/lang/Object;I)V" = some ⟨[(.object "java/lang/Object"), (.array (.object "java/lang/Object")), .int], none⟩ := by decide +kernel
theorem d12_20 : decode jdk_38_method_25_code 20 = .ok (.invokevirtual 131, 3) := by decide +kernel
theorem d12_23 : decode jdk_38_method_25_code 23 = .ok (.iconst 1, 1) := by decide +kernel
theorem d12_24 : decode jdk_38_method_25_code 24 = .ok (.ireturn, 1) := by decide +kernel
def Q_rm_add0 (Z : State) (a1 : Addr) (y : Addr) (dc : Addr) (kd : ClassId) (mc : Int32) (h0 : Heap) (n0 : Nat) (v : Option Value) (h : Heap) (L : List Loc) : Prop := ∃ (b : Addr) (k : ClassId), v = some (.int (1 : Int32)) ∧ Fr n0 L ∧ Keep h0 h [a1] ∧ h0.size ≤ b ∧ Exa Z h a1 "java/util/ArrayList" ∧ Fld Z h a1 "java/util/AbstractList" "modCount" "I" (.int (mc + (1 : Int32))) ∧ Fld Z h a1 "java/util/ArrayList" "elementData" "[Ljava/lang/Object;" (.ref b) ∧ Fld Z h a1 "java/util/ArrayList" "size" "I" (.int (1 : Int32)) ∧ n0 ≤ b ∧ a1 ≠ b ∧ Arv Z h b k (.object "java/lang/Object") (10 : Int32) [(.ref y), .null, .null, .null, .null, .null, .null, .null, .null, .null] .null ∧ Exa Z h b "[Ljava/lang/Object;" ∧ Ovr Z k "java/lang/Object"
set_option maxRecDepth 65536 in
set_option maxHeartbeats 40000000 in
theorem rm_add0 (l : Launch) (Z : State) (a0 : Array Value) (hw : ∀ d ∈ tables_1, d.before a0 Z = true) (ws : List Jvm.Cond) (a1 : Addr) (y : Addr) (dc : Addr) (kd : ClassId) (mc : Int32) (h0 : Heap) (n0 : Nat) (Z0 : n0 ≤ h0.size) (O0 : Ext Z.heap h0) (hn0 : Z.heap.size ≤ n0) (ne_dc_a1p : dc ≠ a1) (S_DC : Sta Z Z.heap "java/util/ArrayList" "DEFAULTCAPACITY_EMPTY_ELEMENTDATA" "[Ljava/lang/Object;" (.ref dc)) (V_dc : Arv Z h0 dc kd (.object "java/lang/Object") (0 : Int32) [] .null) (E_a1 : Exa Z h0 a1 "java/util/ArrayList") (F_modCount_a1 : Fld Z h0 a1 "java/util/AbstractList" "modCount" "I" (.int mc)) (F_elementData_a1 : Fld Z h0 a1 "java/util/ArrayList" "elementData" "[Ljava/lang/Object;" (.ref dc)) (F_size_a1 : Fld Z h0 a1 "java/util/ArrayList" "size" "I" (.int (0 : Int32))) (g_a1 : n0 ≤ a1) (E_y : Exa Z h0 y "java/lang/String") :
    MetFree l (⟨"java/util/ArrayList", "add", "(Ljava/lang/Object;)Z"⟩ : MethodName) (head1 (Jvm.Cond.code (⟨"java/util/ArrayList", "add", "(Ljava/lang/Object;)Z"⟩ : MethodName) jdk_38_method_25_code 2 (some .boolean) :: ws) ({ frames := 4, cells := 1, slots := 10, locals := 56 } : Room)) (fun a U => a = #[(.ref a1), (.ref y)] ∧ Z.Warmed39 U.vm ∧ U.heap = h0) (fun _ _ _ _ _ => True) (fun _ U o U' => ∃ v L, o = .returned v ∧ Q_rm_add0 Z a1 y dc kd mc h0 n0 v U'.heap L ∧ FrameEnd U o U' L ({ frames := 4, cells := 1, slots := 10, locals := 56 } : Room).cells ({ frames := 4, cells := 1, slots := 10, locals := 56 } : Room).slots) := by
  refine MetFree.of_bodySF (plainFor_of_name pnj_12) hisR ?_
  intro p e s m args below meth c s₁ Bd hml0 hP hK
  obtain ⟨rfl, hZ, hh⟩ := hP
  have hx := Bd.exec
  have hby := Bd.bytes
  have hml : c.maxLocals = 2 := hml0
  have hown : s.vm.findClass "java/util/ArrayList" = some m.cls := findClass_of_methodNamed Bd.named
  have hnm := (name_of_methodNamed Bd.named Bd.method).1
  have X0 : Stand p l e ({ frames := 4, cells := 1, slots := 10, locals := 56 } : Room) s m #[(.ref a1), (.ref y)] below meth c s₁ [] 0 0 := Stand.of_body Bd
  have e0 : s₁.heap = h0 := by rw [← hh, Bd.state]; rfl
  have N0 := Fr.nil n0
  have go0 : Go p e below s₁ (mkF m 0 #[.val (.ref a1), .val (.ref y)] []) (s₁.setTop (entryFrame m #[(.ref a1), (.ref y)] 2)) := fun t k => castTop (efj_rm_add0 m a1 y) k
  generalize (s₁.setTop (entryFrame m #[(.ref a1), (.ref y)] 2)) = S0 at go0 ⊢
  have K0 : Keep h0 h0 [a1] := Keep.refl h0 [a1]
  have ne_dc_a1 : dc ≠ a1 := ne_dc_a1p
  have go183 : Go p e below s₁ (mkF m 2 #[.val (.ref a1), .val (.ref y)] [(.ref a1), (.ref a1)]) S0 := by
    intro t kt
    refine go0 t ?_
    refine XS.aloadN X0.here hx rfl (hb hby d12_0) rfl rfl ?_
    refine XS.dup X0.here hx rfl (hb hby d12_1) rfl rfl ?_
    exact kt
  obtain ⟨T184, X184, e184, st184⟩ := getF X0 hx hZ hown (host := "") (Or.inl (hw _ (List.mem_of_getElem? (i := 118) rfl))) (Via.of (hw _ (List.mem_of_getElem? (i := 119) rfl))) e0 F_modCount_a1 (g := (mkF m 2 #[.val (.ref a1), .val (.ref y)] [(.ref a1), (.ref a1)])) rfl rfl (hb hby d12_2)
  have go185 : Go p e below T184 (mkF m 5 #[.val (.ref a1), .val (.ref y)] [(.int mc), (.ref a1)]) S0 := fun t kt => go183 t (st184 _ kt)
  have go186 : Go p e below T184 (mkF m 7 #[.val (.ref a1), .val (.ref y)] [(.int (mc + (1 : Int32))), (.ref a1)]) S0 := by
    intro t kt
    refine go185 t ?_
    refine XS.iconst X184.here hx rfl (hb hby d12_5) ?_
    refine XS.iadd X184.here hx rfl (hb hby d12_6) rfl ?_
    exact kt
  obtain ⟨T187, h187, X187, e187, W187, st187⟩ := putF X184 hx hZ hown (host := "") (Or.inl (hw _ (List.mem_of_getElem? (i := 118) rfl))) (Via.of (hw _ (List.mem_of_getElem? (i := 119) rfl))) e184 F_modCount_a1 E_a1 (Or.inl (hw _ (List.mem_of_getElem? (i := 23) rfl))) (hw _ (List.mem_of_getElem? (i := 2) rfl)) (ty := .int) (by decide) rfl rfl (g := (mkF m 7 #[.val (.ref a1), .val (.ref y)] [(.int (mc + (1 : Int32))), (.ref a1)])) rfl rfl (hb hby d12_7)
  have E_a1 := E_a1.wr W187
  have F_elementData_a1 := F_elementData_a1.other W187 (Or.inr (slot_ne (Or.inl (hw _ (List.mem_of_getElem? (i := 26) rfl))) (Or.inl (hw _ (List.mem_of_getElem? (i := 23) rfl))) (by decide) (t := (.array (.object "java/lang/Object"))) (t' := .int) (by decide) (by decide)))
  have F_size_a1 := F_size_a1.other W187 (Or.inr (slot_ne (Or.inl (hw _ (List.mem_of_getElem? (i := 58) rfl))) (Or.inl (hw _ (List.mem_of_getElem? (i := 23) rfl))) (by decide) (t := .int) (t' := .int) (by decide) (by decide)))
  have E_y := E_y.wr W187
  have V_dc := V_dc.other W187 ne_dc_a1
  have F_modCount_a1 := F_modCount_a1.same W187
  have Z0 := Nat.le_trans Z0 (Keep.of_wr W187).1
  have K0 := K0.wr W187 (Or.inl (List.mem_of_getElem? (i := 0) rfl))
  have N187r := Fr.snoc X187 N0 g_a1
  have go188 : Go p e below T187 (mkF m 10 #[.val (.ref a1), .val (.ref y)] []) S0 := fun t kt => go186 t (st187 _ kt)
  have O0 := own_old O0 K0 hn0 (allS g_a1 all0)
  have go189 : Go p e below T187 (mkF m 13 #[.val (.ref a1), .val (.ref y)] [(.ref a1), (.ref y), (.ref a1)]) S0 := by
    intro t kt
    refine go188 t ?_
    refine XS.aloadN X187.here hx rfl (hb hby d12_10) rfl rfl ?_
    refine XS.aloadN X187.here hx rfl (hb hby d12_11) rfl rfl ?_
    refine XS.aloadN X187.here hx rfl (hb hby d12_12) rfl rfl ?_
    exact kt
  obtain ⟨T190, X190, e190, st190⟩ := getF X187 hx hZ hown (host := "") (Or.inl (hw _ (List.mem_of_getElem? (i := 25) rfl))) Via.refl e187 F_elementData_a1 (g := (mkF m 13 #[.val (.ref a1), .val (.ref y)] [(.ref a1), (.ref y), (.ref a1)])) rfl rfl (hb hby d12_13)
  have go191 : Go p e below T190 (mkF m 16 #[.val (.ref a1), .val (.ref y)] [(.ref dc), (.ref y), (.ref a1)]) S0 := fun t kt => go189 t (st190 _ kt)
  have go192 : Go p e below T190 (mkF m 17 #[.val (.ref a1), .val (.ref y)] [(.ref a1), (.ref dc), (.ref y), (.ref a1)]) S0 := by
    intro t kt
    refine go191 t ?_
    refine XS.aloadN X190.here hx rfl (hb hby d12_16) rfl rfl ?_
    exact kt
  obtain ⟨T193, X193, e193, st193⟩ := getF X190 hx hZ hown (host := "") (Or.inl (hw _ (List.mem_of_getElem? (i := 57) rfl))) Via.refl e190 F_size_a1 (g := (mkF m 17 #[.val (.ref a1), .val (.ref y)] [(.ref a1), (.ref dc), (.ref y), (.ref a1)])) rfl rfl (hb hby d12_17)
  have go194 : Go p e below T193 (mkF m 20 #[.val (.ref a1), .val (.ref y)] [(.int (0 : Int32)), (.ref dc), (.ref y), (.ref a1)]) S0 := fun t kt => go192 t (st193 _ kt)
  obtain ⟨xc195, xk195, xh195, -, -, xs195, -⟩ := id E_a1
  obtain ⟨_, _, ⟨T195, L195, k195, n195⟩, -, X195, ⟨Lc195, hQ195, l195, y195, z195⟩, st195⟩ := X193.privateBack hx (y := (⟨"java/util/ArrayList", "add", "(Ljava/lang/Object;[Ljava/lang/Object;I)V"⟩ : MethodName)) hown (mvT hZ (hw _ (List.mem_of_getElem? (i := 120) rfl))) (mvT hZ (hw _ (List.mem_of_getElem? (i := 121) rfl))) (mvT hZ (hw _ (List.mem_of_getElem? (i := 123) rfl))) (Cond.privateMethod_at (args := #[]) (mvT hZ (hw _ (List.mem_of_getElem? (i := 122) rfl)))) (mvT hZ (hw _ (List.mem_of_getElem? (i := 124) rfl))) (by decide) (backOf (W := 0) (rm_help0 l Z a0 hw [] a1 y dc kd (mc + (1 : Int32)) h187 n0 Z0 O0 hn0 ne_dc_a1p S_DC V_dc E_a1 F_modCount_a1 F_elementData_a1 F_size_a1 g_a1 E_y) hZ (hw _ (List.mem_of_getElem? (i := 124) rfl)) (hw _ (List.mem_of_getElem? (i := 3) rfl)) (by decide) (by decide)) (g := (mkF m 20 #[.val (.ref a1), .val (.ref y)] [(.int (0 : Int32)), (.ref dc), (.ref y), (.ref a1)])) rfl (by rw [hml]; rfl) (Steps.refl _) (a := a1) (by rw [e193]; exact xh195) (VmData.noStatics_of xs195) (argsL := [(.ref y), (.ref dc), (.int (0 : Int32))]) (rest := []) (lenOf pdj__Ljava_lang_Object__Ljava_lang_Object_I_V rfl) rfl (by show 2 * 0 + _ ≤ _; exact Nat.le_of_eq rfl) (hb hby d12_20) (fun _ _ => ⟨rfl, e193, (by decide : 0 + 1 ≤ _), (by decide : 0 + 10 ≤ _)⟩)
  dsimp only [Pt.U, Pt.locs, Pt.cells, Pt.slots] at X195 l195 y195 z195 st195 hQ195
  subst l195 y195 z195
  obtain ⟨b195, kb195, rfl, N195q, K195, sz195, E195, M195, D195, Sz195, gb195, ne195, V195, EX195, O195⟩ := hQ195
  have sz_b : h0.size ≤ b195 := Nat.le_trans K0.1 sz195
  have K0 := K0.trans K195 (allS (Or.inl (List.mem_singleton.mpr rfl)) all0)
  have Z0 := Nat.le_trans Z0 K195.1
  have N195 := Fr.app N187r N195q
  have go196 : Go p e below T195 (mkF m 23 #[.val (.ref a1), .val (.ref y)] []) S0 := fun t kt => go194 t (st195.trans kt)
  have go197 : Go p e below T195 (mkF m 24 #[.val (.ref a1), .val (.ref y)] [(.int (1 : Int32))]) S0 := by
    intro t kt
    refine go196 t ?_
    refine XS.iconst X195.here hx rfl (hb hby d12_23) ?_
    exact kt
  obtain ⟨fs, hr, hrun, hended, hW, hsame⟩ := X195.leave (v := some (.int (1 : Int32))) (fun h => by rw [Bd.returns] at h; cases h)
  refine ⟨_, _, go197 _ ?_, hrun, hended, _, _, rfl, ?_, ⟨_, rfl⟩, hW, hsame.mono (by decide) (by decide)⟩
  · show Steps p.tables e below (T195.setTop (mkF m 24 #[.val (.ref a1), .val (.ref y)] [(.int (1 : Int32))])) _
    exact retN X195 hx (t := .boolean) Bd.returns (by simp) (hb hby d12_24) hr
  · show Q_rm_add0 Z a1 y dc kd mc h0 n0 _ T195.heap _
    exact ⟨b195, kb195, rfl, N195, K0, sz_b, E195, M195, D195, Sz195, gb195, ne195, V195, EX195, O195⟩
theorem efj_rm_help1 (m : MethodId) (a1 : Addr) (y : Addr) (ea : Addr) : entryFrame m #[(.ref a1), (.ref y), (.ref ea), (.int (1 : Int32))] 4 = mkF m 0 #[.val (.ref a1), .val (.ref y), .val (.ref ea), .val (.int (1 : Int32))] [] := by first | (simp [entryFrame, mkF, argsToLocals, Value.category]; done) | rfl
def Q_rm_help1 (Z : State) (a1 : Addr) (y : Addr) (ea : Addr) (ka : ClassId) (x0 : Addr) (mc : Int32) (h0 : Heap) (n0 : Nat) (v : Option Value) (h : Heap) (L : List Loc) : Prop := v = none ∧ Fr n0 L ∧ Keep h0 h [a1, ea] ∧ Exa Z h a1 "java/util/ArrayList" ∧ Fld Z h a1 "java/util/AbstractList" "modCount" "I" (.int mc) ∧ Fld Z h a1 "java/util/ArrayList" "elementData" "[Ljava/lang/Object;" (.ref ea) ∧ Fld Z h a1 "java/util/ArrayList" "size" "I" (.int (2 : Int32)) ∧ Arv Z h ea ka (.object "java/lang/Object") (10 : Int32) [(.ref x0), (.ref y), .null, .null, .null, .null, .null, .null, .null, .null] .null ∧ Exa Z h ea "[Ljava/lang/Object;"
set_option maxRecDepth 65536 in
set_option maxHeartbeats 40000000 in
theorem rm_help1 (l : Launch) (Z : State) (a0 : Array Value) (hw : ∀ d ∈ tables_1, d.before a0 Z = true) (ws : List Jvm.Cond) (a1 : Addr) (y : Addr) (ea : Addr) (ka : ClassId) (x0 : Addr) (mc : Int32) (h0 : Heap) (n0 : Nat) (Z0 : n0 ≤ h0.size) (E_a1 : Exa Z h0 a1 "java/util/ArrayList") (F_modCount_a1 : Fld Z h0 a1 "java/util/AbstractList" "modCount" "I" (.int mc)) (F_elementData_a1 : Fld Z h0 a1 "java/util/ArrayList" "elementData" "[Ljava/lang/Object;" (.ref ea)) (F_size_a1 : Fld Z h0 a1 "java/util/ArrayList" "size" "I" (.int (1 : Int32))) (g_a1 : n0 ≤ a1) (g_ea : n0 ≤ ea) (ne_a1_ea : a1 ≠ ea) (V_ea : Arv Z h0 ea ka (.object "java/lang/Object") (10 : Int32) [(.ref x0), .null, .null, .null, .null, .null, .null, .null, .null, .null] .null) (E_ea : Exa Z h0 ea "[Ljava/lang/Object;") (O_ea : Ovr Z ka "java/lang/Object") (E_y : Exa Z h0 y "java/lang/String") :
    MetFree l (⟨"java/util/ArrayList", "add", "(Ljava/lang/Object;[Ljava/lang/Object;I)V"⟩ : MethodName) (head1 (Jvm.Cond.code (⟨"java/util/ArrayList", "add", "(Ljava/lang/Object;[Ljava/lang/Object;I)V"⟩ : MethodName) jdk_38_method_24_code 4 none :: ws) ({ frames := 0, cells := 0, slots := 0, locals := 0 } : Room)) (fun a U => a = #[(.ref a1), (.ref y), (.ref ea), (.int (1 : Int32))] ∧ Z.Warmed39 U.vm ∧ U.heap = h0) (fun _ _ _ _ _ => True) (fun _ U o U' => ∃ v L, o = .returned v ∧ Q_rm_help1 Z a1 y ea ka x0 mc h0 n0 v U'.heap L ∧ FrameEnd U o U' L ({ frames := 0, cells := 0, slots := 0, locals := 0 } : Room).cells ({ frames := 0, cells := 0, slots := 0, locals := 0 } : Room).slots) := by
  refine MetFree.of_bodySF (plainFor_of_name pnj_11) hisR ?_
  intro p e s m args below meth c s₁ Bd hml0 hP hK
  obtain ⟨rfl, hZ, hh⟩ := hP
  have hx := Bd.exec
  have hby := Bd.bytes
  have hml : c.maxLocals = 4 := hml0
  have hown : s.vm.findClass "java/util/ArrayList" = some m.cls := findClass_of_methodNamed Bd.named
  have hnm := (name_of_methodNamed Bd.named Bd.method).1
  have X0 : Stand p l e ({ frames := 0, cells := 0, slots := 0, locals := 0 } : Room) s m #[(.ref a1), (.ref y), (.ref ea), (.int (1 : Int32))] below meth c s₁ [] 0 0 := Stand.of_body Bd
  have e0 : s₁.heap = h0 := by rw [← hh, Bd.state]; rfl
  have N0 := Fr.nil n0
  have go0 : Go p e below s₁ (mkF m 0 #[.val (.ref a1), .val (.ref y), .val (.ref ea), .val (.int (1 : Int32))] []) (s₁.setTop (entryFrame m #[(.ref a1), (.ref y), (.ref ea), (.int (1 : Int32))] 4)) := fun t k => castTop (efj_rm_help1 m a1 y ea) k
  generalize (s₁.setTop (entryFrame m #[(.ref a1), (.ref y), (.ref ea), (.int (1 : Int32))] 4)) = S0 at go0 ⊢
  have K0 : Keep h0 h0 [a1, ea] := Keep.refl h0 [a1, ea]
  have ne_ea_a1 := ne_a1_ea.symm
  have go198 : Go p e below s₁ (mkF m 2 #[.val (.ref a1), .val (.ref y), .val (.ref ea), .val (.int (1 : Int32))] [(.ref ea), (.int (1 : Int32))]) S0 := by
    intro t kt
    refine go0 t ?_
    refine XS.iloadN X0.here hx rfl (hb hby d11_0) rfl ?_
    refine XS.aloadN X0.here hx rfl (hb hby d11_1) rfl rfl ?_
    exact kt
  obtain ⟨cl199, Ar199, q199, S199, N199, H199, G199⟩ := id V_ea
  have go200 : Go p e below s₁ (mkF m 14 #[.val (.ref a1), .val (.ref y), .val (.ref ea), .val (.int (1 : Int32))] [(.ref y), (.int (1 : Int32)), (.ref ea)]) S0 := by
    intro t kt
    refine go198 t ?_
    refine X0.arraylength hx (by rw [e0]; exact Ar199.1) (State.isArrayOf_alike hZ.alike Ar199.2.1) (g := (mkF m 2 #[.val (.ref a1), .val (.ref y), .val (.ref ea), .val (.int (1 : Int32))] [(.ref ea), (.int (1 : Int32))])) rfl rfl (hb hby d11_2) _ ?_
    rw [len_of S199 N199]
    refine XS.icmpYes X0.here hx rfl (pc0 := 3) (pc' := 11) rfl (hb hby d11_3) rfl (feq (by decide)).2 (by decide) (by decide) ?_
    refine XS.aloadN X0.here hx rfl (hb hby d11_11) rfl rfl ?_
    refine XS.iloadN X0.here hx rfl (hb hby d11_12) rfl ?_
    refine XS.aloadN X0.here hx rfl (hb hby d11_13) rfl rfl ?_
    exact kt
  obtain ⟨cl201, Ar201, q201, S201, N201, H201, G201⟩ := V_ea
  obtain ⟨T201, h201, X201, e201, W201, st201⟩ := stR X0 hx hZ e0 Ar201 (j := (1 : Int32)) (inb_of S201 ⟨by decide, by decide⟩) rfl (Sto.ofV Ar201 q201 O_ea (Ins.of_exa E_y (hw _ (List.mem_of_getElem? (i := 141) rfl)))) (g := (mkF m 14 #[.val (.ref a1), .val (.ref y), .val (.ref ea), .val (.int (1 : Int32))] [(.ref y), (.int (1 : Int32)), (.ref ea)])) rfl rfl (hb hby d11_14)
  have E_a1 := E_a1.wr W201
  have F_modCount_a1 := F_modCount_a1.other W201 (Or.inl ne_a1_ea)
  have F_elementData_a1 := F_elementData_a1.other W201 (Or.inl ne_a1_ea)
  have F_size_a1 := F_size_a1.other W201 (Or.inl ne_a1_ea)
  have E_y := E_y.wr W201
  have E_ea := E_ea.wr W201
  have V_ea : Arv Z h201 ea ka (.object "java/lang/Object") (10 : Int32) [(.ref x0), (.ref y), .null, .null, .null, .null, .null, .null, .null, .null] .null := Arv.set Ar201 q201 S201 N201 H201 G201 rfl W201 1 rfl (Nat.le_of_ble_eq_true rfl)
  have Z0 := Nat.le_trans Z0 (Keep.of_wr W201).1
  have K0 := K0.wr W201 (Or.inl (List.mem_of_getElem? (i := 1) rfl))
  have N201r := Fr.snoc X201 N0 g_ea
  have go202 : Go p e below T201 (mkF m 15 #[.val (.ref a1), .val (.ref y), .val (.ref ea), .val (.int (1 : Int32))] []) S0 := fun t kt => go200 t (st201 _ kt)
  have go203 : Go p e below T201 (mkF m 19 #[.val (.ref a1), .val (.ref y), .val (.ref ea), .val (.int (1 : Int32))] [(.int (2 : Int32)), (.ref a1)]) S0 := by
    intro t kt
    refine go202 t ?_
    refine XS.aloadN X201.here hx rfl (hb hby d11_15) rfl rfl ?_
    refine XS.iloadN X201.here hx rfl (hb hby d11_16) rfl ?_
    refine XS.iconst X201.here hx rfl (hb hby d11_17) ?_
    refine XS.iadd X201.here hx rfl (hb hby d11_18) rfl ?_
    exact kt
  obtain ⟨T204, h204, X204, e204, W204, st204⟩ := putF X201 hx hZ hown (host := "") (Or.inl (hw _ (List.mem_of_getElem? (i := 57) rfl))) Via.refl e201 F_size_a1 E_a1 (Or.inl (hw _ (List.mem_of_getElem? (i := 58) rfl))) (hw _ (List.mem_of_getElem? (i := 2) rfl)) (ty := .int) (by decide) rfl rfl (g := (mkF m 19 #[.val (.ref a1), .val (.ref y), .val (.ref ea), .val (.int (1 : Int32))] [(.int (2 : Int32)), (.ref a1)])) rfl rfl (hb hby d11_19)
  have E_a1 := E_a1.wr W204
  have F_modCount_a1 := F_modCount_a1.other W204 (Or.inr (slot_ne (Or.inl (hw _ (List.mem_of_getElem? (i := 23) rfl))) (Or.inl (hw _ (List.mem_of_getElem? (i := 58) rfl))) (by decide) (t := .int) (t' := .int) (by decide) (by decide)))
  have F_elementData_a1 := F_elementData_a1.other W204 (Or.inr (slot_ne (Or.inl (hw _ (List.mem_of_getElem? (i := 26) rfl))) (Or.inl (hw _ (List.mem_of_getElem? (i := 58) rfl))) (by decide) (t := (.array (.object "java/lang/Object"))) (t' := .int) (by decide) (by decide)))
  have E_y := E_y.wr W204
  have V_ea := V_ea.other W204 ne_ea_a1
  have E_ea := E_ea.wr W204
  have F_size_a1 := F_size_a1.same W204
  have Z0 := Nat.le_trans Z0 (Keep.of_wr W204).1
  have K0 := K0.wr W204 (Or.inl (List.mem_of_getElem? (i := 0) rfl))
  have N204r := Fr.snoc X204 N201r g_a1
  have go205 : Go p e below T204 (mkF m 22 #[.val (.ref a1), .val (.ref y), .val (.ref ea), .val (.int (1 : Int32))] []) S0 := fun t kt => go203 t (st204 _ kt)
  obtain ⟨fs, hr, hrun, hended, hW, hsame⟩ := X204.leave (v := none) (fun _ => rfl)
  refine ⟨_, _, go205 _ ?_, hrun, hended, _, _, rfl, ?_, ⟨_, rfl⟩, hW, hsame.mono (by decide) (by decide)⟩
  · show Steps p.tables e below (T204.setTop (mkF m 22 #[.val (.ref a1), .val (.ref y), .val (.ref ea), .val (.int (1 : Int32))] [])) _
    exact X204.returnOut hx Bd.returns (hb hby d11_22) hr
  · show Q_rm_help1 Z a1 y ea ka x0 mc h0 n0 _ T204.heap _
    rw [e204]
    exact ⟨rfl, N204r, K0, E_a1, F_modCount_a1, F_elementData_a1, F_size_a1, V_ea, E_ea⟩
theorem efj_rm_add1 (m : MethodId) (a1 : Addr) (y : Addr) : entryFrame m #[(.ref a1), (.ref y)] 2 = mkF m 0 #[.val (.ref a1), .val (.ref y)] [] := by first | (simp [entryFrame, mkF, argsToLocals, Value.category]; done) | rfl
def Q_rm_add1 (Z : State) (a1 : Addr) (y : Addr) (ea : Addr) (ka : ClassId) (x0 : Addr) (mc : Int32) (h0 : Heap) (n0 : Nat) (v : Option Value) (h : Heap) (L : List Loc) : Prop := v = some (.int (1 : Int32)) ∧ Fr n0 L ∧ Keep h0 h [a1, ea] ∧ Exa Z h a1 "java/util/ArrayList" ∧ Fld Z h a1 "java/util/AbstractList" "modCount" "I" (.int (mc + (1 : Int32))) ∧ Fld Z h a1 "java/util/ArrayList" "elementData" "[Ljava/lang/Object;" (.ref ea) ∧ Fld Z h a1 "java/util/ArrayList" "size" "I" (.int (2 : Int32)) ∧ Arv Z h ea ka (.object "java/lang/Object") (10 : Int32) [(.ref x0), (.ref y), .null, .null, .null, .null, .null, .null, .null, .null] .null ∧ Exa Z h ea "[Ljava/lang/Object;"
set_option maxRecDepth 65536 in
set_option maxHeartbeats 40000000 in
theorem rm_add1 (l : Launch) (Z : State) (a0 : Array Value) (hw : ∀ d ∈ tables_1, d.before a0 Z = true) (ws : List Jvm.Cond) (a1 : Addr) (y : Addr) (ea : Addr) (ka : ClassId) (x0 : Addr) (mc : Int32) (h0 : Heap) (n0 : Nat) (Z0 : n0 ≤ h0.size) (E_a1 : Exa Z h0 a1 "java/util/ArrayList") (F_modCount_a1 : Fld Z h0 a1 "java/util/AbstractList" "modCount" "I" (.int mc)) (F_elementData_a1 : Fld Z h0 a1 "java/util/ArrayList" "elementData" "[Ljava/lang/Object;" (.ref ea)) (F_size_a1 : Fld Z h0 a1 "java/util/ArrayList" "size" "I" (.int (1 : Int32))) (g_a1 : n0 ≤ a1) (g_ea : n0 ≤ ea) (ne_a1_ea : a1 ≠ ea) (V_ea : Arv Z h0 ea ka (.object "java/lang/Object") (10 : Int32) [(.ref x0), .null, .null, .null, .null, .null, .null, .null, .null, .null] .null) (E_ea : Exa Z h0 ea "[Ljava/lang/Object;") (O_ea : Ovr Z ka "java/lang/Object") (E_y : Exa Z h0 y "java/lang/String") :
    MetFree l (⟨"java/util/ArrayList", "add", "(Ljava/lang/Object;)Z"⟩ : MethodName) (head1 (Jvm.Cond.code (⟨"java/util/ArrayList", "add", "(Ljava/lang/Object;)Z"⟩ : MethodName) jdk_38_method_25_code 2 (some .boolean) :: ws) ({ frames := 1, cells := 0, slots := 0, locals := 15 } : Room)) (fun a U => a = #[(.ref a1), (.ref y)] ∧ Z.Warmed39 U.vm ∧ U.heap = h0) (fun _ _ _ _ _ => True) (fun _ U o U' => ∃ v L, o = .returned v ∧ Q_rm_add1 Z a1 y ea ka x0 mc h0 n0 v U'.heap L ∧ FrameEnd U o U' L ({ frames := 1, cells := 0, slots := 0, locals := 15 } : Room).cells ({ frames := 1, cells := 0, slots := 0, locals := 15 } : Room).slots) := by
  refine MetFree.of_bodySF (plainFor_of_name pnj_12) hisR ?_
  intro p e s m args below meth c s₁ Bd hml0 hP hK
  obtain ⟨rfl, hZ, hh⟩ := hP
  have hx := Bd.exec
  have hby := Bd.bytes
  have hml : c.maxLocals = 2 := hml0
  have hown : s.vm.findClass "java/util/ArrayList" = some m.cls := findClass_of_methodNamed Bd.named
  have hnm := (name_of_methodNamed Bd.named Bd.method).1
  have X0 : Stand p l e ({ frames := 1, cells := 0, slots := 0, locals := 15 } : Room) s m #[(.ref a1), (.ref y)] below meth c s₁ [] 0 0 := Stand.of_body Bd
  have e0 : s₁.heap = h0 := by rw [← hh, Bd.state]; rfl
  have N0 := Fr.nil n0
  have go0 : Go p e below s₁ (mkF m 0 #[.val (.ref a1), .val (.ref y)] []) (s₁.setTop (entryFrame m #[(.ref a1), (.ref y)] 2)) := fun t k => castTop (efj_rm_add1 m a1 y) k
  generalize (s₁.setTop (entryFrame m #[(.ref a1), (.ref y)] 2)) = S0 at go0 ⊢
  have K0 : Keep h0 h0 [a1, ea] := Keep.refl h0 [a1, ea]
  have ne_ea_a1 := ne_a1_ea.symm
  have go206 : Go p e below s₁ (mkF m 2 #[.val (.ref a1), .val (.ref y)] [(.ref a1), (.ref a1)]) S0 := by
    intro t kt
    refine go0 t ?_
    refine XS.aloadN X0.here hx rfl (hb hby d12_0) rfl rfl ?_
    refine XS.dup X0.here hx rfl (hb hby d12_1) rfl rfl ?_
    exact kt
  obtain ⟨T207, X207, e207, st207⟩ := getF X0 hx hZ hown (host := "") (Or.inl (hw _ (List.mem_of_getElem? (i := 118) rfl))) (Via.of (hw _ (List.mem_of_getElem? (i := 119) rfl))) e0 F_modCount_a1 (g := (mkF m 2 #[.val (.ref a1), .val (.ref y)] [(.ref a1), (.ref a1)])) rfl rfl (hb hby d12_2)
  have go208 : Go p e below T207 (mkF m 5 #[.val (.ref a1), .val (.ref y)] [(.int mc), (.ref a1)]) S0 := fun t kt => go206 t (st207 _ kt)
  have go209 : Go p e below T207 (mkF m 7 #[.val (.ref a1), .val (.ref y)] [(.int (mc + (1 : Int32))), (.ref a1)]) S0 := by
    intro t kt
    refine go208 t ?_
    refine XS.iconst X207.here hx rfl (hb hby d12_5) ?_
    refine XS.iadd X207.here hx rfl (hb hby d12_6) rfl ?_
    exact kt
  obtain ⟨T210, h210, X210, e210, W210, st210⟩ := putF X207 hx hZ hown (host := "") (Or.inl (hw _ (List.mem_of_getElem? (i := 118) rfl))) (Via.of (hw _ (List.mem_of_getElem? (i := 119) rfl))) e207 F_modCount_a1 E_a1 (Or.inl (hw _ (List.mem_of_getElem? (i := 23) rfl))) (hw _ (List.mem_of_getElem? (i := 2) rfl)) (ty := .int) (by decide) rfl rfl (g := (mkF m 7 #[.val (.ref a1), .val (.ref y)] [(.int (mc + (1 : Int32))), (.ref a1)])) rfl rfl (hb hby d12_7)
  have E_a1 := E_a1.wr W210
  have F_elementData_a1 := F_elementData_a1.other W210 (Or.inr (slot_ne (Or.inl (hw _ (List.mem_of_getElem? (i := 26) rfl))) (Or.inl (hw _ (List.mem_of_getElem? (i := 23) rfl))) (by decide) (t := (.array (.object "java/lang/Object"))) (t' := .int) (by decide) (by decide)))
  have F_size_a1 := F_size_a1.other W210 (Or.inr (slot_ne (Or.inl (hw _ (List.mem_of_getElem? (i := 58) rfl))) (Or.inl (hw _ (List.mem_of_getElem? (i := 23) rfl))) (by decide) (t := .int) (t' := .int) (by decide) (by decide)))
  have E_y := E_y.wr W210
  have V_ea := V_ea.other W210 ne_ea_a1
  have E_ea := E_ea.wr W210
  have F_modCount_a1 := F_modCount_a1.same W210
  have Z0 := Nat.le_trans Z0 (Keep.of_wr W210).1
  have K0 := K0.wr W210 (Or.inl (List.mem_of_getElem? (i := 0) rfl))
  have N210r := Fr.snoc X210 N0 g_a1
  have go211 : Go p e below T210 (mkF m 10 #[.val (.ref a1), .val (.ref y)] []) S0 := fun t kt => go209 t (st210 _ kt)
  have go212 : Go p e below T210 (mkF m 13 #[.val (.ref a1), .val (.ref y)] [(.ref a1), (.ref y), (.ref a1)]) S0 := by
    intro t kt
    refine go211 t ?_
    refine XS.aloadN X210.here hx rfl (hb hby d12_10) rfl rfl ?_
    refine XS.aloadN X210.here hx rfl (hb hby d12_11) rfl rfl ?_
    refine XS.aloadN X210.here hx rfl (hb hby d12_12) rfl rfl ?_
    exact kt
  obtain ⟨T213, X213, e213, st213⟩ := getF X210 hx hZ hown (host := "") (Or.inl (hw _ (List.mem_of_getElem? (i := 25) rfl))) Via.refl e210 F_elementData_a1 (g := (mkF m 13 #[.val (.ref a1), .val (.ref y)] [(.ref a1), (.ref y), (.ref a1)])) rfl rfl (hb hby d12_13)
  have go214 : Go p e below T213 (mkF m 16 #[.val (.ref a1), .val (.ref y)] [(.ref ea), (.ref y), (.ref a1)]) S0 := fun t kt => go212 t (st213 _ kt)
  have go215 : Go p e below T213 (mkF m 17 #[.val (.ref a1), .val (.ref y)] [(.ref a1), (.ref ea), (.ref y), (.ref a1)]) S0 := by
    intro t kt
    refine go214 t ?_
    refine XS.aloadN X213.here hx rfl (hb hby d12_16) rfl rfl ?_
    exact kt
  obtain ⟨T216, X216, e216, st216⟩ := getF X213 hx hZ hown (host := "") (Or.inl (hw _ (List.mem_of_getElem? (i := 57) rfl))) Via.refl e213 F_size_a1 (g := (mkF m 17 #[.val (.ref a1), .val (.ref y)] [(.ref a1), (.ref ea), (.ref y), (.ref a1)])) rfl rfl (hb hby d12_17)
  have go217 : Go p e below T216 (mkF m 20 #[.val (.ref a1), .val (.ref y)] [(.int (1 : Int32)), (.ref ea), (.ref y), (.ref a1)]) S0 := fun t kt => go215 t (st216 _ kt)
  obtain ⟨xc218, xk218, xh218, -, -, xs218, -⟩ := id E_a1
  obtain ⟨_, _, ⟨T218, L218, k218, n218⟩, -, X218, ⟨Lc218, hQ218, l218, y218, z218⟩, st218⟩ := X216.privateBack hx (y := (⟨"java/util/ArrayList", "add", "(Ljava/lang/Object;[Ljava/lang/Object;I)V"⟩ : MethodName)) hown (mvT hZ (hw _ (List.mem_of_getElem? (i := 120) rfl))) (mvT hZ (hw _ (List.mem_of_getElem? (i := 121) rfl))) (mvT hZ (hw _ (List.mem_of_getElem? (i := 123) rfl))) (Cond.privateMethod_at (args := #[]) (mvT hZ (hw _ (List.mem_of_getElem? (i := 122) rfl)))) (mvT hZ (hw _ (List.mem_of_getElem? (i := 124) rfl))) (by decide) (backOf (W := 0) (rm_help1 l Z a0 hw [] a1 y ea ka x0 (mc + (1 : Int32)) h210 n0 Z0 E_a1 F_modCount_a1 F_elementData_a1 F_size_a1 g_a1 g_ea ne_a1_ea V_ea E_ea O_ea E_y) hZ (hw _ (List.mem_of_getElem? (i := 124) rfl)) (hw _ (List.mem_of_getElem? (i := 3) rfl)) (by decide) (by decide)) (g := (mkF m 20 #[.val (.ref a1), .val (.ref y)] [(.int (1 : Int32)), (.ref ea), (.ref y), (.ref a1)])) rfl (by rw [hml]; rfl) (Steps.refl _) (a := a1) (by rw [e216]; exact xh218) (VmData.noStatics_of xs218) (argsL := [(.ref y), (.ref ea), (.int (1 : Int32))]) (rest := []) (lenOf pdj__Ljava_lang_Object__Ljava_lang_Object_I_V rfl) rfl (by show 2 * 0 + _ ≤ _; exact Nat.le_of_eq rfl) (hb hby d12_20) (fun _ _ => ⟨rfl, e216, (by decide : 0 + 0 ≤ _), (by decide : 0 + 0 ≤ _)⟩)
  dsimp only [Pt.U, Pt.locs, Pt.cells, Pt.slots] at X218 l218 y218 z218 st218 hQ218
  subst l218 y218 z218
  obtain ⟨rfl, N218q, K218, E218, M218, D218, Sz218, V218, EX218⟩ := hQ218
  have K0 := K0.trans K218 (allS (Or.inl (List.mem_of_getElem? (i := 0) rfl)) (allS (Or.inl (List.mem_of_getElem? (i := 1) rfl)) all0))
  have Z0 := Nat.le_trans Z0 K218.1
  have N218 := Fr.app N210r N218q
  have go219 : Go p e below T218 (mkF m 23 #[.val (.ref a1), .val (.ref y)] []) S0 := fun t kt => go217 t (st218.trans kt)
  have go220 : Go p e below T218 (mkF m 24 #[.val (.ref a1), .val (.ref y)] [(.int (1 : Int32))]) S0 := by
    intro t kt
    refine go219 t ?_
    refine XS.iconst X218.here hx rfl (hb hby d12_23) ?_
    exact kt
  obtain ⟨fs, hr, hrun, hended, hW, hsame⟩ := X218.leave (v := some (.int (1 : Int32))) (fun h => by rw [Bd.returns] at h; cases h)
  refine ⟨_, _, go220 _ ?_, hrun, hended, _, _, rfl, ?_, ⟨_, rfl⟩, hW, hsame.mono (by decide) (by decide)⟩
  · show Steps p.tables e below (T218.setTop (mkF m 24 #[.val (.ref a1), .val (.ref y)] [(.int (1 : Int32))])) _
    exact retN X218 hx (t := .boolean) Bd.returns (by simp) (hb hby d12_24) hr
  · show Q_rm_add1 Z a1 y ea ka x0 mc h0 n0 _ T218.heap _
    exact ⟨rfl, N218, K0, E218, M218, D218, Sz218, V218, EX218⟩
theorem efj_rm_help2 (m : MethodId) (a1 : Addr) (y : Addr) (ea : Addr) : entryFrame m #[(.ref a1), (.ref y), (.ref ea), (.int (2 : Int32))] 4 = mkF m 0 #[.val (.ref a1), .val (.ref y), .val (.ref ea), .val (.int (2 : Int32))] [] := by first | (simp [entryFrame, mkF, argsToLocals, Value.category]; done) | rfl
def Q_rm_help2 (Z : State) (a1 : Addr) (y : Addr) (ea : Addr) (ka : ClassId) (x0 : Addr) (x1 : Addr) (mc : Int32) (h0 : Heap) (n0 : Nat) (v : Option Value) (h : Heap) (L : List Loc) : Prop := v = none ∧ Fr n0 L ∧ Keep h0 h [a1, ea] ∧ Exa Z h a1 "java/util/ArrayList" ∧ Fld Z h a1 "java/util/AbstractList" "modCount" "I" (.int mc) ∧ Fld Z h a1 "java/util/ArrayList" "elementData" "[Ljava/lang/Object;" (.ref ea) ∧ Fld Z h a1 "java/util/ArrayList" "size" "I" (.int (3 : Int32)) ∧ Arv Z h ea ka (.object "java/lang/Object") (10 : Int32) [(.ref x0), (.ref x1), (.ref y), .null, .null, .null, .null, .null, .null, .null] .null ∧ Exa Z h ea "[Ljava/lang/Object;"
set_option maxRecDepth 65536 in
set_option maxHeartbeats 40000000 in
theorem rm_help2 (l : Launch) (Z : State) (a0 : Array Value) (hw : ∀ d ∈ tables_1, d.before a0 Z = true) (ws : List Jvm.Cond) (a1 : Addr) (y : Addr) (ea : Addr) (ka : ClassId) (x0 : Addr) (x1 : Addr) (mc : Int32) (h0 : Heap) (n0 : Nat) (Z0 : n0 ≤ h0.size) (E_a1 : Exa Z h0 a1 "java/util/ArrayList") (F_modCount_a1 : Fld Z h0 a1 "java/util/AbstractList" "modCount" "I" (.int mc)) (F_elementData_a1 : Fld Z h0 a1 "java/util/ArrayList" "elementData" "[Ljava/lang/Object;" (.ref ea)) (F_size_a1 : Fld Z h0 a1 "java/util/ArrayList" "size" "I" (.int (2 : Int32))) (g_a1 : n0 ≤ a1) (g_ea : n0 ≤ ea) (ne_a1_ea : a1 ≠ ea) (V_ea : Arv Z h0 ea ka (.object "java/lang/Object") (10 : Int32) [(.ref x0), (.ref x1), .null, .null, .null, .null, .null, .null, .null, .null] .null) (E_ea : Exa Z h0 ea "[Ljava/lang/Object;") (O_ea : Ovr Z ka "java/lang/Object") (E_y : Exa Z h0 y "java/lang/String") :
    MetFree l (⟨"java/util/ArrayList", "add", "(Ljava/lang/Object;[Ljava/lang/Object;I)V"⟩ : MethodName) (head1 (Jvm.Cond.code (⟨"java/util/ArrayList", "add", "(Ljava/lang/Object;[Ljava/lang/Object;I)V"⟩ : MethodName) jdk_38_method_24_code 4 none :: ws) ({ frames := 0, cells := 0, slots := 0, locals := 0 } : Room)) (fun a U => a = #[(.ref a1), (.ref y), (.ref ea), (.int (2 : Int32))] ∧ Z.Warmed39 U.vm ∧ U.heap = h0) (fun _ _ _ _ _ => True) (fun _ U o U' => ∃ v L, o = .returned v ∧ Q_rm_help2 Z a1 y ea ka x0 x1 mc h0 n0 v U'.heap L ∧ FrameEnd U o U' L ({ frames := 0, cells := 0, slots := 0, locals := 0 } : Room).cells ({ frames := 0, cells := 0, slots := 0, locals := 0 } : Room).slots) := by
  refine MetFree.of_bodySF (plainFor_of_name pnj_11) hisR ?_
  intro p e s m args below meth c s₁ Bd hml0 hP hK
  obtain ⟨rfl, hZ, hh⟩ := hP
  have hx := Bd.exec
  have hby := Bd.bytes
  have hml : c.maxLocals = 4 := hml0
  have hown : s.vm.findClass "java/util/ArrayList" = some m.cls := findClass_of_methodNamed Bd.named
  have hnm := (name_of_methodNamed Bd.named Bd.method).1
  have X0 : Stand p l e ({ frames := 0, cells := 0, slots := 0, locals := 0 } : Room) s m #[(.ref a1), (.ref y), (.ref ea), (.int (2 : Int32))] below meth c s₁ [] 0 0 := Stand.of_body Bd
  have e0 : s₁.heap = h0 := by rw [← hh, Bd.state]; rfl
  have N0 := Fr.nil n0
  have go0 : Go p e below s₁ (mkF m 0 #[.val (.ref a1), .val (.ref y), .val (.ref ea), .val (.int (2 : Int32))] []) (s₁.setTop (entryFrame m #[(.ref a1), (.ref y), (.ref ea), (.int (2 : Int32))] 4)) := fun t k => castTop (efj_rm_help2 m a1 y ea) k
  generalize (s₁.setTop (entryFrame m #[(.ref a1), (.ref y), (.ref ea), (.int (2 : Int32))] 4)) = S0 at go0 ⊢
  have K0 : Keep h0 h0 [a1, ea] := Keep.refl h0 [a1, ea]
  have ne_ea_a1 := ne_a1_ea.symm
  have go221 : Go p e below s₁ (mkF m 2 #[.val (.ref a1), .val (.ref y), .val (.ref ea), .val (.int (2 : Int32))] [(.ref ea), (.int (2 : Int32))]) S0 := by
    intro t kt
    refine go0 t ?_
    refine XS.iloadN X0.here hx rfl (hb hby d11_0) rfl ?_
    refine XS.aloadN X0.here hx rfl (hb hby d11_1) rfl rfl ?_
    exact kt
  obtain ⟨cl222, Ar222, q222, S222, N222, H222, G222⟩ := id V_ea
  have go223 : Go p e below s₁ (mkF m 14 #[.val (.ref a1), .val (.ref y), .val (.ref ea), .val (.int (2 : Int32))] [(.ref y), (.int (2 : Int32)), (.ref ea)]) S0 := by
    intro t kt
    refine go221 t ?_
    refine X0.arraylength hx (by rw [e0]; exact Ar222.1) (State.isArrayOf_alike hZ.alike Ar222.2.1) (g := (mkF m 2 #[.val (.ref a1), .val (.ref y), .val (.ref ea), .val (.int (2 : Int32))] [(.ref ea), (.int (2 : Int32))])) rfl rfl (hb hby d11_2) _ ?_
    rw [len_of S222 N222]
    refine XS.icmpYes X0.here hx rfl (pc0 := 3) (pc' := 11) rfl (hb hby d11_3) rfl (feq (by decide)).2 (by decide) (by decide) ?_
    refine XS.aloadN X0.here hx rfl (hb hby d11_11) rfl rfl ?_
    refine XS.iloadN X0.here hx rfl (hb hby d11_12) rfl ?_
    refine XS.aloadN X0.here hx rfl (hb hby d11_13) rfl rfl ?_
    exact kt
  obtain ⟨cl224, Ar224, q224, S224, N224, H224, G224⟩ := V_ea
  obtain ⟨T224, h224, X224, e224, W224, st224⟩ := stR X0 hx hZ e0 Ar224 (j := (2 : Int32)) (inb_of S224 ⟨by decide, by decide⟩) rfl (Sto.ofV Ar224 q224 O_ea (Ins.of_exa E_y (hw _ (List.mem_of_getElem? (i := 141) rfl)))) (g := (mkF m 14 #[.val (.ref a1), .val (.ref y), .val (.ref ea), .val (.int (2 : Int32))] [(.ref y), (.int (2 : Int32)), (.ref ea)])) rfl rfl (hb hby d11_14)
  have E_a1 := E_a1.wr W224
  have F_modCount_a1 := F_modCount_a1.other W224 (Or.inl ne_a1_ea)
  have F_elementData_a1 := F_elementData_a1.other W224 (Or.inl ne_a1_ea)
  have F_size_a1 := F_size_a1.other W224 (Or.inl ne_a1_ea)
  have E_y := E_y.wr W224
  have E_ea := E_ea.wr W224
  have V_ea : Arv Z h224 ea ka (.object "java/lang/Object") (10 : Int32) [(.ref x0), (.ref x1), (.ref y), .null, .null, .null, .null, .null, .null, .null] .null := Arv.set Ar224 q224 S224 N224 H224 G224 rfl W224 2 rfl (Nat.le_of_ble_eq_true rfl)
  have Z0 := Nat.le_trans Z0 (Keep.of_wr W224).1
  have K0 := K0.wr W224 (Or.inl (List.mem_of_getElem? (i := 1) rfl))
  have N224r := Fr.snoc X224 N0 g_ea
  have go225 : Go p e below T224 (mkF m 15 #[.val (.ref a1), .val (.ref y), .val (.ref ea), .val (.int (2 : Int32))] []) S0 := fun t kt => go223 t (st224 _ kt)
  have go226 : Go p e below T224 (mkF m 19 #[.val (.ref a1), .val (.ref y), .val (.ref ea), .val (.int (2 : Int32))] [(.int (3 : Int32)), (.ref a1)]) S0 := by
    intro t kt
    refine go225 t ?_
    refine XS.aloadN X224.here hx rfl (hb hby d11_15) rfl rfl ?_
    refine XS.iloadN X224.here hx rfl (hb hby d11_16) rfl ?_
    refine XS.iconst X224.here hx rfl (hb hby d11_17) ?_
    refine XS.iadd X224.here hx rfl (hb hby d11_18) rfl ?_
    exact kt
  obtain ⟨T227, h227, X227, e227, W227, st227⟩ := putF X224 hx hZ hown (host := "") (Or.inl (hw _ (List.mem_of_getElem? (i := 57) rfl))) Via.refl e224 F_size_a1 E_a1 (Or.inl (hw _ (List.mem_of_getElem? (i := 58) rfl))) (hw _ (List.mem_of_getElem? (i := 2) rfl)) (ty := .int) (by decide) rfl rfl (g := (mkF m 19 #[.val (.ref a1), .val (.ref y), .val (.ref ea), .val (.int (2 : Int32))] [(.int (3 : Int32)), (.ref a1)])) rfl rfl (hb hby d11_19)
  have E_a1 := E_a1.wr W227
  have F_modCount_a1 := F_modCount_a1.other W227 (Or.inr (slot_ne (Or.inl (hw _ (List.mem_of_getElem? (i := 23) rfl))) (Or.inl (hw _ (List.mem_of_getElem? (i := 58) rfl))) (by decide) (t := .int) (t' := .int) (by decide) (by decide)))
  have F_elementData_a1 := F_elementData_a1.other W227 (Or.inr (slot_ne (Or.inl (hw _ (List.mem_of_getElem? (i := 26) rfl))) (Or.inl (hw _ (List.mem_of_getElem? (i := 58) rfl))) (by decide) (t := (.array (.object "java/lang/Object"))) (t' := .int) (by decide) (by decide)))
  have E_y := E_y.wr W227
  have V_ea := V_ea.other W227 ne_ea_a1
  have E_ea := E_ea.wr W227
  have F_size_a1 := F_size_a1.same W227
  have Z0 := Nat.le_trans Z0 (Keep.of_wr W227).1
  have K0 := K0.wr W227 (Or.inl (List.mem_of_getElem? (i := 0) rfl))
  have N227r := Fr.snoc X227 N224r g_a1
  have go228 : Go p e below T227 (mkF m 22 #[.val (.ref a1), .val (.ref y), .val (.ref ea), .val (.int (2 : Int32))] []) S0 := fun t kt => go226 t (st227 _ kt)
  obtain ⟨fs, hr, hrun, hended, hW, hsame⟩ := X227.leave (v := none) (fun _ => rfl)
  refine ⟨_, _, go228 _ ?_, hrun, hended, _, _, rfl, ?_, ⟨_, rfl⟩, hW, hsame.mono (by decide) (by decide)⟩
  · show Steps p.tables e below (T227.setTop (mkF m 22 #[.val (.ref a1), .val (.ref y), .val (.ref ea), .val (.int (2 : Int32))] [])) _
    exact X227.returnOut hx Bd.returns (hb hby d11_22) hr
  · show Q_rm_help2 Z a1 y ea ka x0 x1 mc h0 n0 _ T227.heap _
    rw [e227]
    exact ⟨rfl, N227r, K0, E_a1, F_modCount_a1, F_elementData_a1, F_size_a1, V_ea, E_ea⟩
theorem efj_rm_add2 (m : MethodId) (a1 : Addr) (y : Addr) : entryFrame m #[(.ref a1), (.ref y)] 2 = mkF m 0 #[.val (.ref a1), .val (.ref y)] [] := by first | (simp [entryFrame, mkF, argsToLocals, Value.category]; done) | rfl
def Q_rm_add2 (Z : State) (a1 : Addr) (y : Addr) (ea : Addr) (ka : ClassId) (x0 : Addr) (x1 : Addr) (mc : Int32) (h0 : Heap) (n0 : Nat) (v : Option Value) (h : Heap) (L : List Loc) : Prop := v = some (.int (1 : Int32)) ∧ Fr n0 L ∧ Keep h0 h [a1, ea] ∧ Exa Z h a1 "java/util/ArrayList" ∧ Fld Z h a1 "java/util/AbstractList" "modCount" "I" (.int (mc + (1 : Int32))) ∧ Fld Z h a1 "java/util/ArrayList" "elementData" "[Ljava/lang/Object;" (.ref ea) ∧ Fld Z h a1 "java/util/ArrayList" "size" "I" (.int (3 : Int32)) ∧ Arv Z h ea ka (.object "java/lang/Object") (10 : Int32) [(.ref x0), (.ref x1), (.ref y), .null, .null, .null, .null, .null, .null, .null] .null ∧ Exa Z h ea "[Ljava/lang/Object;"
set_option maxRecDepth 65536 in
set_option maxHeartbeats 40000000 in
theorem rm_add2 (l : Launch) (Z : State) (a0 : Array Value) (hw : ∀ d ∈ tables_1, d.before a0 Z = true) (ws : List Jvm.Cond) (a1 : Addr) (y : Addr) (ea : Addr) (ka : ClassId) (x0 : Addr) (x1 : Addr) (mc : Int32) (h0 : Heap) (n0 : Nat) (Z0 : n0 ≤ h0.size) (E_a1 : Exa Z h0 a1 "java/util/ArrayList") (F_modCount_a1 : Fld Z h0 a1 "java/util/AbstractList" "modCount" "I" (.int mc)) (F_elementData_a1 : Fld Z h0 a1 "java/util/ArrayList" "elementData" "[Ljava/lang/Object;" (.ref ea)) (F_size_a1 : Fld Z h0 a1 "java/util/ArrayList" "size" "I" (.int (2 : Int32))) (g_a1 : n0 ≤ a1) (g_ea : n0 ≤ ea) (ne_a1_ea : a1 ≠ ea) (V_ea : Arv Z h0 ea ka (.object "java/lang/Object") (10 : Int32) [(.ref x0), (.ref x1), .null, .null, .null, .null, .null, .null, .null, .null] .null) (E_ea : Exa Z h0 ea "[Ljava/lang/Object;") (O_ea : Ovr Z ka "java/lang/Object") (E_y : Exa Z h0 y "java/lang/String") :
    MetFree l (⟨"java/util/ArrayList", "add", "(Ljava/lang/Object;)Z"⟩ : MethodName) (head1 (Jvm.Cond.code (⟨"java/util/ArrayList", "add", "(Ljava/lang/Object;)Z"⟩ : MethodName) jdk_38_method_25_code 2 (some .boolean) :: ws) ({ frames := 1, cells := 0, slots := 0, locals := 15 } : Room)) (fun a U => a = #[(.ref a1), (.ref y)] ∧ Z.Warmed39 U.vm ∧ U.heap = h0) (fun _ _ _ _ _ => True) (fun _ U o U' => ∃ v L, o = .returned v ∧ Q_rm_add2 Z a1 y ea ka x0 x1 mc h0 n0 v U'.heap L ∧ FrameEnd U o U' L ({ frames := 1, cells := 0, slots := 0, locals := 15 } : Room).cells ({ frames := 1, cells := 0, slots := 0, locals := 15 } : Room).slots) := by
  refine MetFree.of_bodySF (plainFor_of_name pnj_12) hisR ?_
  intro p e s m args below meth c s₁ Bd hml0 hP hK
  obtain ⟨rfl, hZ, hh⟩ := hP
  have hx := Bd.exec
  have hby := Bd.bytes
  have hml : c.maxLocals = 2 := hml0
  have hown : s.vm.findClass "java/util/ArrayList" = some m.cls := findClass_of_methodNamed Bd.named
  have hnm := (name_of_methodNamed Bd.named Bd.method).1
  have X0 : Stand p l e ({ frames := 1, cells := 0, slots := 0, locals := 15 } : Room) s m #[(.ref a1), (.ref y)] below meth c s₁ [] 0 0 := Stand.of_body Bd
  have e0 : s₁.heap = h0 := by rw [← hh, Bd.state]; rfl
  have N0 := Fr.nil n0
  have go0 : Go p e below s₁ (mkF m 0 #[.val (.ref a1), .val (.ref y)] []) (s₁.setTop (entryFrame m #[(.ref a1), (.ref y)] 2)) := fun t k => castTop (efj_rm_add2 m a1 y) k
  generalize (s₁.setTop (entryFrame m #[(.ref a1), (.ref y)] 2)) = S0 at go0 ⊢
  have K0 : Keep h0 h0 [a1, ea] := Keep.refl h0 [a1, ea]
  have ne_ea_a1 := ne_a1_ea.symm
  have go229 : Go p e below s₁ (mkF m 2 #[.val (.ref a1), .val (.ref y)] [(.ref a1), (.ref a1)]) S0 := by
    intro t kt
    refine go0 t ?_
    refine XS.aloadN X0.here hx rfl (hb hby d12_0) rfl rfl ?_
    refine XS.dup X0.here hx rfl (hb hby d12_1) rfl rfl ?_
    exact kt
  obtain ⟨T230, X230, e230, st230⟩ := getF X0 hx hZ hown (host := "") (Or.inl (hw _ (List.mem_of_getElem? (i := 118) rfl))) (Via.of (hw _ (List.mem_of_getElem? (i := 119) rfl))) e0 F_modCount_a1 (g := (mkF m 2 #[.val (.ref a1), .val (.ref y)] [(.ref a1), (.ref a1)])) rfl rfl (hb hby d12_2)
  have go231 : Go p e below T230 (mkF m 5 #[.val (.ref a1), .val (.ref y)] [(.int mc), (.ref a1)]) S0 := fun t kt => go229 t (st230 _ kt)
  have go232 : Go p e below T230 (mkF m 7 #[.val (.ref a1), .val (.ref y)] [(.int (mc + (1 : Int32))), (.ref a1)]) S0 := by
    intro t kt
    refine go231 t ?_
    refine XS.iconst X230.here hx rfl (hb hby d12_5) ?_
    refine XS.iadd X230.here hx rfl (hb hby d12_6) rfl ?_
    exact kt
  obtain ⟨T233, h233, X233, e233, W233, st233⟩ := putF X230 hx hZ hown (host := "") (Or.inl (hw _ (List.mem_of_getElem? (i := 118) rfl))) (Via.of (hw _ (List.mem_of_getElem? (i := 119) rfl))) e230 F_modCount_a1 E_a1 (Or.inl (hw _ (List.mem_of_getElem? (i := 23) rfl))) (hw _ (List.mem_of_getElem? (i := 2) rfl)) (ty := .int) (by decide) rfl rfl (g := (mkF m 7 #[.val (.ref a1), .val (.ref y)] [(.int (mc + (1 : Int32))), (.ref a1)])) rfl rfl (hb hby d12_7)
  have E_a1 := E_a1.wr W233
  have F_elementData_a1 := F_elementData_a1.other W233 (Or.inr (slot_ne (Or.inl (hw _ (List.mem_of_getElem? (i := 26) rfl))) (Or.inl (hw _ (List.mem_of_getElem? (i := 23) rfl))) (by decide) (t := (.array (.object "java/lang/Object"))) (t' := .int) (by decide) (by decide)))
  have F_size_a1 := F_size_a1.other W233 (Or.inr (slot_ne (Or.inl (hw _ (List.mem_of_getElem? (i := 58) rfl))) (Or.inl (hw _ (List.mem_of_getElem? (i := 23) rfl))) (by decide) (t := .int) (t' := .int) (by decide) (by decide)))
  have E_y := E_y.wr W233
  have V_ea := V_ea.other W233 ne_ea_a1
  have E_ea := E_ea.wr W233
  have F_modCount_a1 := F_modCount_a1.same W233
  have Z0 := Nat.le_trans Z0 (Keep.of_wr W233).1
  have K0 := K0.wr W233 (Or.inl (List.mem_of_getElem? (i := 0) rfl))
  have N233r := Fr.snoc X233 N0 g_a1
  have go234 : Go p e below T233 (mkF m 10 #[.val (.ref a1), .val (.ref y)] []) S0 := fun t kt => go232 t (st233 _ kt)
  have go235 : Go p e below T233 (mkF m 13 #[.val (.ref a1), .val (.ref y)] [(.ref a1), (.ref y), (.ref a1)]) S0 := by
    intro t kt
    refine go234 t ?_
    refine XS.aloadN X233.here hx rfl (hb hby d12_10) rfl rfl ?_
    refine XS.aloadN X233.here hx rfl (hb hby d12_11) rfl rfl ?_
    refine XS.aloadN X233.here hx rfl (hb hby d12_12) rfl rfl ?_
    exact kt
  obtain ⟨T236, X236, e236, st236⟩ := getF X233 hx hZ hown (host := "") (Or.inl (hw _ (List.mem_of_getElem? (i := 25) rfl))) Via.refl e233 F_elementData_a1 (g := (mkF m 13 #[.val (.ref a1), .val (.ref y)] [(.ref a1), (.ref y), (.ref a1)])) rfl rfl (hb hby d12_13)
  have go237 : Go p e below T236 (mkF m 16 #[.val (.ref a1), .val (.ref y)] [(.ref ea), (.ref y), (.ref a1)]) S0 := fun t kt => go235 t (st236 _ kt)
  have go238 : Go p e below T236 (mkF m 17 #[.val (.ref a1), .val (.ref y)] [(.ref a1), (.ref ea), (.ref y), (.ref a1)]) S0 := by
    intro t kt
    refine go237 t ?_
    refine XS.aloadN X236.here hx rfl (hb hby d12_16) rfl rfl ?_
    exact kt
  obtain ⟨T239, X239, e239, st239⟩ := getF X236 hx hZ hown (host := "") (Or.inl (hw _ (List.mem_of_getElem? (i := 57) rfl))) Via.refl e236 F_size_a1 (g := (mkF m 17 #[.val (.ref a1), .val (.ref y)] [(.ref a1), (.ref ea), (.ref y), (.ref a1)])) rfl rfl (hb hby d12_17)
  have go240 : Go p e below T239 (mkF m 20 #[.val (.ref a1), .val (.ref y)] [(.int (2 : Int32)), (.ref ea), (.ref y), (.ref a1)]) S0 := fun t kt => go238 t (st239 _ kt)
  obtain ⟨xc241, xk241, xh241, -, -, xs241, -⟩ := id E_a1
  obtain ⟨_, _, ⟨T241, L241, k241, n241⟩, -, X241, ⟨Lc241, hQ241, l241, y241, z241⟩, st241⟩ := X239.privateBack hx (y := (⟨"java/util/ArrayList", "add", "(Ljava/lang/Object;[Ljava/lang/Object;I)V"⟩ : MethodName)) hown (mvT hZ (hw _ (List.mem_of_getElem? (i := 120) rfl))) (mvT hZ (hw _ (List.mem_of_getElem? (i := 121) rfl))) (mvT hZ (hw _ (List.mem_of_getElem? (i := 123) rfl))) (Cond.privateMethod_at (args := #[]) (mvT hZ (hw _ (List.mem_of_getElem? (i := 122) rfl)))) (mvT hZ (hw _ (List.mem_of_getElem? (i := 124) rfl))) (by decide) (backOf (W := 0) (rm_help2 l Z a0 hw [] a1 y ea ka x0 x1 (mc + (1 : Int32)) h233 n0 Z0 E_a1 F_modCount_a1 F_elementData_a1 F_size_a1 g_a1 g_ea ne_a1_ea V_ea E_ea O_ea E_y) hZ (hw _ (List.mem_of_getElem? (i := 124) rfl)) (hw _ (List.mem_of_getElem? (i := 3) rfl)) (by decide) (by decide)) (g := (mkF m 20 #[.val (.ref a1), .val (.ref y)] [(.int (2 : Int32)), (.ref ea), (.ref y), (.ref a1)])) rfl (by rw [hml]; rfl) (Steps.refl _) (a := a1) (by rw [e239]; exact xh241) (VmData.noStatics_of xs241) (argsL := [(.ref y), (.ref ea), (.int (2 : Int32))]) (rest := []) (lenOf pdj__Ljava_lang_Object__Ljava_lang_Object_I_V rfl) rfl (by show 2 * 0 + _ ≤ _; exact Nat.le_of_eq rfl) (hb hby d12_20) (fun _ _ => ⟨rfl, e239, (by decide : 0 + 0 ≤ _), (by decide : 0 + 0 ≤ _)⟩)
  dsimp only [Pt.U, Pt.locs, Pt.cells, Pt.slots] at X241 l241 y241 z241 st241 hQ241
  subst l241 y241 z241
  obtain ⟨rfl, N241q, K241, E241, M241, D241, Sz241, V241, EX241⟩ := hQ241
  have K0 := K0.trans K241 (allS (Or.inl (List.mem_of_getElem? (i := 0) rfl)) (allS (Or.inl (List.mem_of_getElem? (i := 1) rfl)) all0))
  have Z0 := Nat.le_trans Z0 K241.1
  have N241 := Fr.app N233r N241q
  have go242 : Go p e below T241 (mkF m 23 #[.val (.ref a1), .val (.ref y)] []) S0 := fun t kt => go240 t (st241.trans kt)
  have go243 : Go p e below T241 (mkF m 24 #[.val (.ref a1), .val (.ref y)] [(.int (1 : Int32))]) S0 := by
    intro t kt
    refine go242 t ?_
    refine XS.iconst X241.here hx rfl (hb hby d12_23) ?_
    exact kt
  obtain ⟨fs, hr, hrun, hended, hW, hsame⟩ := X241.leave (v := some (.int (1 : Int32))) (fun h => by rw [Bd.returns] at h; cases h)
  refine ⟨_, _, go243 _ ?_, hrun, hended, _, _, rfl, ?_, ⟨_, rfl⟩, hW, hsame.mono (by decide) (by decide)⟩
  · show Steps p.tables e below (T241.setTop (mkF m 24 #[.val (.ref a1), .val (.ref y)] [(.int (1 : Int32))])) _
    exact retN X241 hx (t := .boolean) Bd.returns (by simp) (hb hby d12_24) hr
  · show Q_rm_add2 Z a1 y ea ka x0 x1 mc h0 n0 _ T241.heap _
    exact ⟨rfl, N241, K0, E241, M241, D241, Sz241, V241, EX241⟩
open Jvm.Free.LOB in
theorem own_copied {g : Jvm.Free.ALB.G} {em el : Addr} {A : Pt} {a : Array Value} {v : Option Value} {B : Pt} (h : CopyOf.PostAll g em el A a v B) (hn : g.n ≤ 3) :
    ∃ r : Addr, v = some (.ref r) ∧ Ext A.U.heap B.U.heap ∧ B.locs = A.locs ∧ B.cells ≤ A.cells + 3 ∧ B.slots ≤ A.slots + 8 ∧ (g.n = 0 → r = el) := by
  rcases h with ⟨h1, h2, h3, h4, h5, h6⟩ | ⟨h1, r, k, n, h2, h3, h4, h5, h6⟩
  · exact ⟨el, h2, by rw [h3]; exact ⟨Nat.le_refl _, fun _ _ q => q⟩, h4, by omega, by omega, fun _ => rfl⟩
  · obtain ⟨hc, hk⟩ := h3
    refine ⟨r, h2, ⟨?_, hk⟩, h4, ?_, ?_, fun q => by omega⟩
    · apply Nat.le_of_not_lt
      intro q
      have e1 := hk B.U.heap.size _ (Array.getElem?_eq_getElem q)
      simp at e1
    · rcases hc with ⟨_, q, _⟩ | ⟨_, q, _⟩ | ⟨_, q, _⟩ <;> omega
    · rcases hc with ⟨q, _, q2, _⟩ | ⟨q, _, q2, _⟩ | ⟨q, _, q2, _⟩ <;> omega
theorem own_root {Z : State} {a0 : Array Value} {O K : String} {n : Nat} (w : (Cond.noSuperclass O).before a0 Z = true) (wk : (Cond.instantiable K n).before a0 Z = true) (hn : O ≠ K) : NS Z O K := by
  obtain ⟨c, k, h1, h2, h3, -, -⟩ := Cond.noSuperclass_spec w
  obtain ⟨t, k', g1, -⟩ := Cond.instantiable_spec wk
  have ne := ids_ne h1 g1 hn
  refine ⟨c, t, h1, g1, fun fuel => ?_⟩
  cases fuel with
  | zero => rfl
  | succ f => simp [Vm.isSubclassAux, ne, h2, h3]
theorem own_no {Z : State} {a0 : Array Value} {C S K : String} {n : Nat} (w : (Cond.superclass C S).before a0 Z = true) (wk : (Cond.instantiable K n).before a0 Z = true) (N : NS Z C K) (hn : C ≠ K) : ∃ c t, Z.vm.findClass C = some c ∧ Z.vm.findClass K = some t ∧ Z.vm.assignable c t = false := by
  obtain ⟨c, t, h0, g0, n3⟩ := N
  obtain ⟨p, k, kp, h1, h2, h3, h4, h5, -, h7⟩ := Cond.superclass_spec h0 w
  obtain ⟨t', k', g1, g2, g3, g4, -⟩ := Cond.instantiable_spec wk
  cases g0.symm.trans g1
  have ne := ids_ne h0 g0 hn
  have g7 : k'.isInterface = false := (Bool.or_eq_false_iff.mp g4).1
  refine ⟨c, t, h0, g0, ?_⟩
  show Z.vm.assignableAux (255 + 1) c t = false
  simp [Vm.assignableAux, ne, h2, g2, h5, g3, g7, Vm.isSubclass, n3]
theorem own_static {U : State} {C n d : String} {v : Value} (h : Sta U U.heap C n d v) : Jvm.Lib.Cold.StaticIs U C n d v := by
  obtain ⟨cf, i, k, f, st, cell, h1, h2, h3, h4, h5, h6, h7⟩ := h
  exact ⟨cf, i, k, f, st, cell, h1, h2, h3, h4, h5, (fun q => by rw [q] at h6; cases h6), h7⟩
def own_U (Z : State) (h : Heap) : State := { Z with heap := h }
set_option maxRecDepth 65536 in
theorem own_pall (Z U : State) {a0 : Array Value} (hu : Z.Warmed39 U.vm) (hw : ∀ d ∈ tables_1, d.before a0 Z = true) (hm : ∃ (c : ClassId) (k : Class) (m : Addr), U.vm.findClass "[Ljava/lang/Object;" = some c ∧ U.vm.classes[c]? = some k ∧ k.mirror = some m) {al ea em el : Addr} {k : ClassId} {n : Nat} {z mc : Int32} {vs : List Value}
    (E : Exa U U.heap al "java/util/ArrayList") (F1 : Fld U U.heap al "java/util/ArrayList" "elementData" "[Ljava/lang/Object;" (.ref ea)) (F2 : Fld U U.heap al "java/util/ArrayList" "size" "I" (.int (Int32.ofNat n))) (F3 : Fld U U.heap al "java/util/AbstractList" "modCount" "I" (.int mc))
    (V : Arv U U.heap ea k (.object "java/lang/Object") z vs .null) (EA : Exa U U.heap ea "[Ljava/lang/Object;") (hn : n ≤ 3) (hz : n ≤ z.toNatClampNeg) (hz2 : z.toNatClampNeg ≤ 10) (hv : ∀ v ∈ vs, v = .null ∨ ∃ y, v = .ref y ∧ Exa U U.heap y "java/lang/String") (hnn : ∀ i, i < n → vs.getD i .null ≠ .null)
    (Sem : Sta U U.heap "java/util/ImmutableCollections" "EMPTY" "Ljava/lang/Object;" (.ref em)) (Sel : Sta U U.heap "java/util/ImmutableCollections" "EMPTY_LIST" "Ljava/util/ImmutableCollections$ListN;" (.ref el)) :
    ∃ (g : Jvm.Free.ALB.G) (gz : Jvm.Free.ALB.GX) (c12 cN : ClassId), g.n = n ∧ Jvm.Free.LOB.CopyOf.PAll 3 g gz c12 cN em el #[.ref al] U := by
  obtain ⟨cl, A, q1, S, N, H, G⟩ := V
  have hsz : cl.slots.size < 2 ^ 31 := by rw [S]; omega
  have earg : (Term.arg 0).eval #[.ref al] U none [] U = some (.ref al) := rfl
  have e1 : (Jvm.Free.ALB.EDt (.arg 0)).eval #[.ref al] U none [] U = some (.ref ea) := by rw [Jvm.Free.ALB.EDt, fld_at earg]; exact F1.fin (Vm.Alike.refl _)
  have e2 : (Jvm.Free.ALB.SZt (.arg 0)).eval #[.ref al] U none [] U = some (.int (Int32.ofNat n)) := by rw [Jvm.Free.ALB.SZt, fld_at earg]; exact F2.fin (Vm.Alike.refl _)
  have e3 : (Jvm.Free.ALB.MCt (.arg 0)).eval #[.ref al] U none [] U = some (.int mc) := by rw [Jvm.Free.ALB.MCt, fld_at earg]; exact F3.fin (Vm.Alike.refl _)
  have ha : U.arrayAt? ea = some cl := Arr.fin (Vm.Alike.refl _) A
  have e4 : (Term.length (Jvm.Free.ALB.EDt (.arg 0))).eval #[.ref al] U none [] U = some (.int cl.slots.size.toInt32) := len_f e1 ha hsz
  have hwords : ∀ w ∈ Jvm.Free.ALB.alW (.arg 0), w.before #[.ref al] U = true := by
    intro w hm
    simp only [Jvm.Free.ALB.alW, List.mem_cons, List.not_mem_nil, or_false] at hm
    rcases hm with rfl | rfl | rfl | rfl | rfl | rfl | rfl | rfl | rfl | rfl | rfl | rfl | rfl | rfl
    · exact Cond.before_iff.mpr (Exa.fin (Vm.Alike.refl _) (mvT (args := a0) hu (hw _ (List.mem_of_getElem? (i := 2) rfl))) earg E)
    · exact (mvT hu (hw _ (List.mem_of_getElem? (i := 2) rfl)))
    · exact (mvT hu (hw _ (List.mem_of_getElem? (i := 26) rfl)))
    · exact (mvT hu (hw _ (List.mem_of_getElem? (i := 58) rfl)))
    · exact (mvT hu (hw _ (List.mem_of_getElem? (i := 23) rfl)))
    · exact (mvT hu (hw _ (List.mem_of_getElem? (i := 119) rfl)))
    · obtain ⟨hns, kk, hk1, comp, hk2⟩ := A.2.1
      have hkn := A.2.2
      have hst : cl.vm.isStatics = false := by cases hq : cl.vm <;> first | rfl | exact absurd hq (hns _)
      refine Cond.before_iff.mpr ?_
      simp only [Cond.value, e1]
      have hkt : U.knowsType (FieldType.object "java/lang/Object") = true := by
        obtain ⟨co, _, _, q, _⟩ := Cond.arrayOver_spec (Cond.arrayOver_alike (a' := a0) hu.alike (hw _ (List.mem_of_getElem? (i := 140) rfl)))
        simp [State.knowsType, q]
      simp [A.1, hk1, hk2, hst, hkn, hkt, Jvm.Free.AList.OT]
    · obtain ⟨c2, k2, h1, h2, h3, h4, h5⟩ := EA
      refine Cond.before_iff.mpr ?_
      simp only [Cond.value, e1]
      cases h1.symm.trans A.1
      obtain ⟨hns, kk, hk1, comp, hk2⟩ := A.2.1
      cases hk1.symm.trans h3
      simp [h2, A.1, h3, h4, hk2, Jvm.Free.AList.OAD]
    · exact (Cond.arrayOver_alike hu.alike (hw _ (List.mem_of_getElem? (i := 140) rfl)))
    · exact Cond.before_iff.mpr (by simp [Cond.value, e2])
    · refine Cond.before_iff.mpr ?_
      simp only [Cond.value, e2, Term.eval]
      simp [Int32.le_iff_toInt_le, Int32.toInt_ofNat_of_lt (show n < 2 ^ 31 by omega)]
    · refine Cond.before_iff.mpr ?_
      simp only [Cond.value, e2, e4]
      have : cl.slots.size.toInt32 = Int32.ofNat cl.slots.size := rfl
      simp [Int32.le_iff_toInt_le, this, Int32.toInt_ofNat_of_lt (show n < 2 ^ 31 by omega), Int32.toInt_ofNat_of_lt hsz]
      omega
    · exact Cond.before_iff.mpr (by simp [Cond.value, e4])
    · exact Cond.before_iff.mpr (by simp [Cond.value, e3])
  obtain ⟨x, C, ea', E', n', mc', h0, hA, hO, hS, hE, harr⟩ := Jvm.Free.ALB.Al.of_words hwords
  obtain rfl : al = x.a := by rw [earg] at h0; exact Value.ref.inj (Option.some.inj h0)
  obtain rfl : ea = ea' := by rw [e1] at hE; exact Value.ref.inj (Option.some.inj hE)
  obtain rfl : cl = E' := Option.some.inj (ha.symm.trans harr)
  have hn' : n' = n := by
    have q := hS.symm.trans e2
    simp only [Option.some.injEq, Value.int.injEq] at q
    have q2 := congrArg Int32.toInt q
    rw [Int32.toInt_ofNat_of_lt (show n < 2 ^ 31 by omega), Int32.toInt_ofNat_of_lt (by have := hA.le; omega)] at q2
    omega
  subst hn'
  obtain ⟨cm, km, mm, m1, m2, m3⟩ := hm
  obtain ⟨cAR, a1, -⟩ := Cond.initialized_iff.mp (mvT (args := a0) hu (hw _ (List.mem_of_getElem? (i := 152) rfl)))
  obtain ⟨cA, c12, b1, b2, b3⟩ := (own_no (mvT (args := a0) hu (hw _ (List.mem_of_getElem? (i := 43) rfl))) (mvT (args := a0) hu (hw _ (List.mem_of_getElem? (i := 176) rfl))) (NS.step (mvT (args := a0) hu (hw _ (List.mem_of_getElem? (i := 43) rfl))) (NS.step (mvT (args := a0) hu (hw _ (List.mem_of_getElem? (i := 44) rfl))) (NS.step (mvT (args := a0) hu (hw _ (List.mem_of_getElem? (i := 45) rfl))) (own_root (mvT (args := a0) hu (hw _ (List.mem_of_getElem? (i := 46) rfl))) (mvT (args := a0) hu (hw _ (List.mem_of_getElem? (i := 176) rfl))) (by decide)) (by decide)) (by decide)) (by decide)) (by decide))
  obtain ⟨cA', cN, d1, d2, d3⟩ := (own_no (mvT (args := a0) hu (hw _ (List.mem_of_getElem? (i := 43) rfl))) (mvT (args := a0) hu (hw _ (List.mem_of_getElem? (i := 210) rfl))) (NS.step (mvT (args := a0) hu (hw _ (List.mem_of_getElem? (i := 43) rfl))) (NS.step (mvT (args := a0) hu (hw _ (List.mem_of_getElem? (i := 44) rfl))) (NS.step (mvT (args := a0) hu (hw _ (List.mem_of_getElem? (i := 45) rfl))) (own_root (mvT (args := a0) hu (hw _ (List.mem_of_getElem? (i := 46) rfl))) (mvT (args := a0) hu (hw _ (List.mem_of_getElem? (i := 210) rfl))) (by decide)) (by decide)) (by decide)) (by decide)) (by decide))
  cases hA.fc.symm.trans b1
  cases hA.fc.symm.trans d1
  have hfcO := hA.fcO
  refine ⟨⟨x, C, ea, cl, n', mc'⟩, ⟨mm, cAR⟩, c12, cN, rfl, rfl, hA, ⟨hO, a1, km, ?_, m3⟩, ?_, ?_, hn, by show n' * 4 ≤ 536870912; omega, b2, b3, d2, d3, own_static Sem, own_static Sel⟩
  · cases hfcO.symm.trans m1; exact m2
  · intro i hi
    refine ⟨_, H i hi, ?_⟩
    by_cases hl : i < vs.length
    · have hmem : vs.getD i .null ∈ vs := by rw [List.getD_eq_getElem?_getD, List.getElem?_eq_getElem hl]; exact List.getElem_mem hl
      rcases hv _ hmem with q | ⟨y, q, X⟩
      · exact Or.inl q
      · obtain ⟨cy, cT, i1, i2, i3⟩ := Ins.of_exa X (mvT (args := a0) hu (hw _ (List.mem_of_getElem? (i := 141) rfl)))
        obtain ⟨cy', ky, j1, j2, j3, j4, -⟩ := X
        cases i1.symm.trans j1
        cases i2.symm.trans hO
        exact Or.inr ⟨y, cy, ky, q, i1, VmData.noStatics_of j4, j3, by simpa [j4] using i3⟩
    · left; rw [List.getD_eq_getElem?_getD, List.getElem?_eq_none (by omega)]; rfl
  · intro i hi q
    have hi' : i < n' := hi
    have := H i (by rw [S]; omega)
    rw [this] at q
    exact hnn i hi' (Option.some.inj q)
theorem pnj_13 : plainName "com/example/tinlet/tinlet/deploy/descriptor/FragmentNames" = true := by first | (simp [plainName, overriddenIn]; done) | decide +kernel
theorem efj_rm_fninit (m : MethodId) (a1 : Addr) (al : Addr) (p3 : Int32) : entryFrame m #[(.ref a1), (.ref al), (.int p3)] 3 = mkF m 0 #[.val (.ref a1), .val (.ref al), .val (.int p3)] [] := by first | (simp [entryFrame, mkF, argsToLocals, Value.category]; done) | rfl
theorem d13_0 : decode prog_7_method_1_code 0 = .ok (.aload_n 0, 1) := by decide +kernel
theorem d13_1 : decode prog_7_method_1_code 1 = .ok (.invokespecial 1, 3) := by decide +kernel
theorem d13_4 : decode prog_7_method_1_code 4 = .ok (.aload_n 0, 1) := by decide +kernel
theorem d13_5 : decode prog_7_method_1_code 5 = .ok (.aload_n 1, 1) := by decide +kernel
theorem pdj_copyOf : parseMethodDescriptor "(Ljava/util/Collection;)Ljava/util/List;" = some ⟨[(.object "java/util/Collection")], some (.object "java/util/List")⟩ := by decide +kernel
theorem d13_6 : decode prog_7_method_1_code 6 = .ok (.invokestatic 7, 3) := by decide +kernel
theorem d13_9 : decode prog_7_method_1_code 9 = .ok (.putfield 13, 3) := by decide +kernel
theorem d13_12 : decode prog_7_method_1_code 12 = .ok (.aload_n 0, 1) := by decide +kernel
theorem d13_13 : decode prog_7_method_1_code 13 = .ok (.iload_n 2, 1) := by decide +kernel
theorem d13_14 : decode prog_7_method_1_code 14 = .ok (.putfield 19, 3) := by decide +kernel
theorem d13_17 : decode prog_7_method_1_code 17 = .ok (.return_, 1) := by decide +kernel
def Q_rm_fninit (Z : State) (a1 : Addr) (al : Addr) (p3 : Int32) (g : Jvm.Free.ALB.G) (gz : Jvm.Free.ALB.GX) (c12 : ClassId) (cN : ClassId) (em : Addr) (el : Addr) (h0 : Heap) (n0 : Nat) (v : Option Value) (h : Heap) (L : List Loc) : Prop := v = none ∧ Fr n0 L ∧ Keep h0 h [a1] ∧ Exa Z h a1 "com/example/tinlet/tinlet/deploy/descriptor/FragmentNames" ∧ Fld Z h a1 "com/example/tinlet/tinlet/deploy/descriptor/FragmentNames" "othersAt" "I" (.int p3) ∧ ∃ r : Addr, Fld Z h a1 "com/example/tinlet/tinlet/deploy/descriptor/FragmentNames" "names" "Ljava/util/List;" (.ref r) ∧ (g.n = 0 → r = el)
set_option maxRecDepth 65536 in
set_option maxHeartbeats 40000000 in
theorem rm_fninit (l : Launch) (Z : State) (a0 : Array Value) (hw : ∀ d ∈ tables_1, d.before a0 Z = true) (ws : List Jvm.Cond) (a1 : Addr) (al : Addr) (p3 : Int32) (g : Jvm.Free.ALB.G) (gz : Jvm.Free.ALB.GX) (c12 : ClassId) (cN : ClassId) (em : Addr) (el : Addr) (h0 : Heap) (n0 : Nat) (Z0 : n0 ≤ h0.size) (E_a1 : Exa Z h0 a1 "com/example/tinlet/tinlet/deploy/descriptor/FragmentNames") (F_names_a1 : Fld Z h0 a1 "com/example/tinlet/tinlet/deploy/descriptor/FragmentNames" "names" "Ljava/util/List;" .null) (F_othersAt_a1 : Fld Z h0 a1 "com/example/tinlet/tinlet/deploy/descriptor/FragmentNames" "othersAt" "I" (.int (0 : Int32))) (g_a1 : n0 ≤ a1) (hP : Jvm.Free.LOB.CopyOf.PAll 3 g gz c12 cN em el #[.ref al] (own_U Z h0)) :
    MetFree l (⟨"com/example/tinlet/tinlet/deploy/descriptor/FragmentNames", "<init>", "(Ljava/util/List;I)V"⟩ : MethodName) (head1 (Jvm.Cond.code (⟨"com/example/tinlet/tinlet/deploy/descriptor/FragmentNames", "<init>", "(Ljava/util/List;I)V"⟩ : MethodName) prog_7_method_1_code 3 none :: ws) ({ frames := 9, cells := 3, slots := 8, locals := 143 } : Room)) (fun a U => a = #[(.ref a1), (.ref al), (.int p3)] ∧ Z.Warmed39 U.vm ∧ U.heap = h0) (fun _ _ _ _ _ => True) (fun _ U o U' => ∃ v L, o = .returned v ∧ Q_rm_fninit Z a1 al p3 g gz c12 cN em el h0 n0 v U'.heap L ∧ FrameEnd U o U' L ({ frames := 9, cells := 3, slots := 8, locals := 143 } : Room).cells ({ frames := 9, cells := 3, slots := 8, locals := 143 } : Room).slots) := by
  refine MetFree.of_bodySF (plainFor_of_name pnj_13) hisR ?_
  intro p e s m args below meth c s₁ Bd hml0 hP hK
  obtain ⟨rfl, hZ, hh⟩ := hP
  have hx := Bd.exec
  have hby := Bd.bytes
  have hml : c.maxLocals = 3 := hml0
  have hown : s.vm.findClass "com/example/tinlet/tinlet/deploy/descriptor/FragmentNames" = some m.cls := findClass_of_methodNamed Bd.named
  have hnm := (name_of_methodNamed Bd.named Bd.method).1
  have X0 : Stand p l e ({ frames := 9, cells := 3, slots := 8, locals := 143 } : Room) s m #[(.ref a1), (.ref al), (.int p3)] below meth c s₁ [] 0 0 := Stand.of_body Bd
  have e0 : s₁.heap = h0 := by rw [← hh, Bd.state]; rfl
  have N0 := Fr.nil n0
  have go0 : Go p e below s₁ (mkF m 0 #[.val (.ref a1), .val (.ref al), .val (.int p3)] []) (s₁.setTop (entryFrame m #[(.ref a1), (.ref al), (.int p3)] 3)) := fun t k => castTop (efj_rm_fninit m a1 al p3) k
  generalize (s₁.setTop (entryFrame m #[(.ref a1), (.ref al), (.int p3)] 3)) = S0 at go0 ⊢
  have K0 : Keep h0 h0 [a1] := Keep.refl h0 [a1]
  have go244 : Go p e below s₁ (mkF m 1 #[.val (.ref a1), .val (.ref al), .val (.int p3)] [(.ref a1)]) S0 := by
    intro t kt
    refine go0 t ?_
    refine XS.aloadN X0.here hx rfl (hb hby d13_0) rfl rfl ?_
    exact kt
  obtain ⟨T245, X245, e245, st245⟩ := initO X0 hx hZ hown (hw _ (List.mem_of_getElem? (i := 33) rfl)) (hw _ (List.mem_of_getElem? (i := 20) rfl)) (hw _ (List.mem_of_getElem? (i := 21) rfl)) e0 (g := (mkF m 1 #[.val (.ref a1), .val (.ref al), .val (.int p3)] [(.ref a1)])) rfl (by rw [hml]; rfl) rfl (hb hby d13_1) (by decide) (W := 0) (by show 2 * 0 + _ ≤ _; exact Nat.le_of_eq rfl) (by decide)
  have go246 : Go p e below T245 (mkF m 4 #[.val (.ref a1), .val (.ref al), .val (.int p3)] []) S0 := fun t kt => go244 t (st245 _ kt)
  have go247 : Go p e below T245 (mkF m 6 #[.val (.ref a1), .val (.ref al), .val (.int p3)] [(.ref al), (.ref a1)]) S0 := by
    intro t kt
    refine go246 t ?_
    refine XS.aloadN X245.here hx rfl (hb hby d13_4) rfl rfl ?_
    refine XS.aloadN X245.here hx rfl (hb hby d13_5) rfl rfl ?_
    exact kt
  obtain ⟨v248, vm248, ⟨T248, L248, c248, s248⟩, -, X248, hE248, st248⟩ := Jvm.LawKit.callS X245 hx (y := (⟨"java/util/List", "copyOf", "(Ljava/util/Collection;)Ljava/util/List;"⟩ : MethodName)) hown (mvT hZ (hw _ (List.mem_of_getElem? (i := 34) rfl))) (mvT hZ (hw _ (List.mem_of_getElem? (i := 35) rfl))) (mvT hZ (hw _ (List.mem_of_getElem? (i := 36) rfl))) (mvT hZ (hw _ (List.mem_of_getElem? (i := 37) rfl))) (by decide) (Jvm.Free.LOB.CopyOf.allPays (W := 1) 3 g gz c12 cN em el (own_tabAll hZ hw) (by decide) (by decide)) (g := (mkF m 6 #[.val (.ref a1), .val (.ref al), .val (.int p3)] [(.ref al), (.ref a1)])) rfl (by rw [hml]; rfl) (argsL := [.ref al]) (rest := [.ref a1]) (lenOf pdj_copyOf rfl) rfl (by show 2 * 0 + _ ≤ _; exact Nat.le_of_eq rfl) (hb hby d13_6) (fun vmx hWx => ⟨Nat.le_of_ble_eq_true rfl, Nat.le_of_ble_eq_true rfl, Jvm.Free.LOB.CopyOf.PAll.move (U := own_U Z h0) (hZ.alike.trans hWx.alike) e245 hP⟩)
  have hn3 : g.n ≤ 3 := hP.2.2.2.2.2.1
  obtain ⟨r, hv248, Ex248, hL248, hc248, hs248, hr248⟩ := own_copied hE248 hn3
  dsimp only [Pt.U, Pt.locs, Pt.cells, Pt.slots] at X248 st248 Ex248 hL248 hc248 hs248
  subst hv248 hL248
  have Ex248 : Ext h0 T248.heap := by rw [← e245]; exact Ex248
  have X248 := X248.more hc248 hs248
  have E_a1 := E_a1.ext Ex248
  have F_names_a1 := F_names_a1.ext Ex248
  have F_othersAt_a1 := F_othersAt_a1.ext Ex248
  have Z0 := Nat.le_trans Z0 Ex248.1
  have K0 := K0.ext Ex248
  have go249 : Go p e below T248 (mkF m 9 #[.val (.ref a1), .val (.ref al), .val (.int p3)] [(.ref r), (.ref a1)]) S0 := fun t kt => go247 t (st248 _ kt)
  obtain ⟨T250, h250, X250, e250, W250, st250⟩ := putF X248 hx hZ hown (host := "") (Or.inl (hw _ (List.mem_of_getElem? (i := 63) rfl))) Via.refl rfl F_names_a1 E_a1 (Or.inr ⟨(hw _ (List.mem_of_getElem? (i := 64) rfl)), rfl, hnm⟩) (hw _ (List.mem_of_getElem? (i := 28) rfl)) (ty := (.object "java/util/List")) (by decide) rfl rfl (g := (mkF m 9 #[.val (.ref a1), .val (.ref al), .val (.int p3)] [(.ref r), (.ref a1)])) rfl rfl (hb hby d13_9)
  have E_a1 := E_a1.wr W250
  have F_othersAt_a1 := F_othersAt_a1.other W250 (Or.inr (slot_ne (Or.inr (hw _ (List.mem_of_getElem? (i := 66) rfl))) (Or.inr (hw _ (List.mem_of_getElem? (i := 64) rfl))) (by decide) (t := .int) (t' := (.object "java/util/List")) (by decide) (by decide)))
  have F_names_a1 := F_names_a1.same W250
  have Z0 := Nat.le_trans Z0 (Keep.of_wr W250).1
  have K0 := K0.wr W250 (Or.inl (List.mem_of_getElem? (i := 0) rfl))
  have N250r := Fr.snoc X250 N0 g_a1
  have go251 : Go p e below T250 (mkF m 12 #[.val (.ref a1), .val (.ref al), .val (.int p3)] []) S0 := fun t kt => go249 t (st250 _ kt)
  have go252 : Go p e below T250 (mkF m 14 #[.val (.ref a1), .val (.ref al), .val (.int p3)] [(.int p3), (.ref a1)]) S0 := by
    intro t kt
    refine go251 t ?_
    refine XS.aloadN X250.here hx rfl (hb hby d13_12) rfl rfl ?_
    refine XS.iloadN X250.here hx rfl (hb hby d13_13) rfl ?_
    exact kt
  obtain ⟨T253, h253, X253, e253, W253, st253⟩ := putF X250 hx hZ hown (host := "") (Or.inl (hw _ (List.mem_of_getElem? (i := 65) rfl))) Via.refl e250 F_othersAt_a1 E_a1 (Or.inr ⟨(hw _ (List.mem_of_getElem? (i := 66) rfl)), rfl, hnm⟩) (hw _ (List.mem_of_getElem? (i := 28) rfl)) (ty := .int) (by decide) rfl rfl (g := (mkF m 14 #[.val (.ref a1), .val (.ref al), .val (.int p3)] [(.int p3), (.ref a1)])) rfl rfl (hb hby d13_14)
  have E_a1 := E_a1.wr W253
  have F_names_a1 := F_names_a1.other W253 (Or.inr (slot_ne (Or.inr (hw _ (List.mem_of_getElem? (i := 64) rfl))) (Or.inr (hw _ (List.mem_of_getElem? (i := 66) rfl))) (by decide) (t := (.object "java/util/List")) (t' := .int) (by decide) (by decide)))
  have F_othersAt_a1 := F_othersAt_a1.same W253
  have Z0 := Nat.le_trans Z0 (Keep.of_wr W253).1
  have K0 := K0.wr W253 (Or.inl (List.mem_of_getElem? (i := 0) rfl))
  have N253r := Fr.snoc X253 N250r g_a1
  have go254 : Go p e below T253 (mkF m 17 #[.val (.ref a1), .val (.ref al), .val (.int p3)] []) S0 := fun t kt => go252 t (st253 _ kt)
  obtain ⟨fs, hr, hrun, hended, hW, hsame⟩ := X253.leave (v := none) (fun _ => rfl)
  refine ⟨_, _, go254 _ ?_, hrun, hended, _, _, rfl, ?_, ⟨_, rfl⟩, hW, hsame.mono (by decide) (by decide)⟩
  · show Steps p.tables e below (T253.setTop (mkF m 17 #[.val (.ref a1), .val (.ref al), .val (.int p3)] [])) _
    exact X253.returnOut hx Bd.returns (hb hby d13_17) hr
  · show Q_rm_fninit Z a1 al p3 g gz c12 cN em el h0 n0 _ T253.heap _
    rw [e253]
    exact ⟨rfl, N253r, K0, E_a1, F_othersAt_a1, r, F_names_a1, hr248⟩
theorem pnj_14 : plainName "com/example/tinlet/tinlet/deploy/descriptor/FragmentNames" = true := by first | (simp [plainName, overriddenIn]; done) | decide +kernel
theorem efj_rm_hasOthersY (m : MethodId) (a1 : Addr) : entryFrame m #[(.ref a1)] 1 = mkF m 0 #[.val (.ref a1)] [] := by first | (simp [entryFrame, mkF, argsToLocals, Value.category]; done) | rfl
theorem d14_0 : decode prog_7_method_3_code 0 = .ok (.aload_n 0, 1) := by decide +kernel
theorem d14_1 : decode prog_7_method_3_code 1 = .ok (.getfield 19, 3) := by decide +kernel
theorem d14_4 : decode prog_7_method_3_code 4 = .ok (.ifCond .lt 7, 3) := by decide +kernel
theorem d14_7 : decode prog_7_method_3_code 7 = .ok (.iconst 1, 1) := by decide +kernel
theorem d14_8 : decode prog_7_method_3_code 8 = .ok (.goto 4, 3) := by decide +kernel
theorem d14_12 : decode prog_7_method_3_code 12 = .ok (.ireturn, 1) := by decide +kernel
def Q_rm_hasOthersY (Z : State) (a1 : Addr) (p3 : Int32) (h0 : Heap) (n0 : Nat) (v : Option Value) (h : Heap) (L : List Loc) : Prop := v = some (.int (1 : Int32)) ∧ Fr n0 L ∧ h = h0
set_option maxRecDepth 65536 in
set_option maxHeartbeats 40000000 in
theorem rm_hasOthersY (l : Launch) (Z : State) (a0 : Array Value) (hw : ∀ d ∈ tables_1, d.before a0 Z = true) (ws : List Jvm.Cond) (a1 : Addr) (p3 : Int32) (h0 : Heap) (n0 : Nat) (Z0 : n0 ≤ h0.size) (hp : ¬ p3 < (0 : Int32)) (F_othersAt_a1 : Fld Z h0 a1 "com/example/tinlet/tinlet/deploy/descriptor/FragmentNames" "othersAt" "I" (.int p3)) :
    MetFree l (⟨"com/example/tinlet/tinlet/deploy/descriptor/FragmentNames", "hasOthers", "()Z"⟩ : MethodName) (head1 (Jvm.Cond.code (⟨"com/example/tinlet/tinlet/deploy/descriptor/FragmentNames", "hasOthers", "()Z"⟩ : MethodName) prog_7_method_3_code 1 (some .boolean) :: ws) ({ frames := 0, cells := 0, slots := 0, locals := 0 } : Room)) (fun a U => a = #[(.ref a1)] ∧ Z.Warmed39 U.vm ∧ U.heap = h0) (fun _ _ _ _ _ => True) (fun _ U o U' => ∃ v L, o = .returned v ∧ Q_rm_hasOthersY Z a1 p3 h0 n0 v U'.heap L ∧ FrameEnd U o U' L ({ frames := 0, cells := 0, slots := 0, locals := 0 } : Room).cells ({ frames := 0, cells := 0, slots := 0, locals := 0 } : Room).slots) := by
  refine MetFree.of_bodySF (plainFor_of_name pnj_14) hisR ?_
  intro p e s m args below meth c s₁ Bd hml0 hP hK
  obtain ⟨rfl, hZ, hh⟩ := hP
  have hx := Bd.exec
  have hby := Bd.bytes
  have hml : c.maxLocals = 1 := hml0
  have hown : s.vm.findClass "com/example/tinlet/tinlet/deploy/descriptor/FragmentNames" = some m.cls := findClass_of_methodNamed Bd.named
  have hnm := (name_of_methodNamed Bd.named Bd.method).1
  have X0 : Stand p l e ({ frames := 0, cells := 0, slots := 0, locals := 0 } : Room) s m #[(.ref a1)] below meth c s₁ [] 0 0 := Stand.of_body Bd
  have e0 : s₁.heap = h0 := by rw [← hh, Bd.state]; rfl
  have N0 := Fr.nil n0
  have go0 : Go p e below s₁ (mkF m 0 #[.val (.ref a1)] []) (s₁.setTop (entryFrame m #[(.ref a1)] 1)) := fun t k => castTop (efj_rm_hasOthersY m a1) k
  generalize (s₁.setTop (entryFrame m #[(.ref a1)] 1)) = S0 at go0 ⊢
  have go255 : Go p e below s₁ (mkF m 1 #[.val (.ref a1)] [(.ref a1)]) S0 := by
    intro t kt
    refine go0 t ?_
    refine XS.aloadN X0.here hx rfl (hb hby d14_0) rfl rfl ?_
    exact kt
  obtain ⟨T256, X256, e256, st256⟩ := getF X0 hx hZ hown (host := "") (Or.inl (hw _ (List.mem_of_getElem? (i := 65) rfl))) Via.refl e0 F_othersAt_a1 (g := (mkF m 1 #[.val (.ref a1)] [(.ref a1)])) rfl rfl (hb hby d14_1)
  have go257 : Go p e below T256 (mkF m 4 #[.val (.ref a1)] [(.int p3)]) S0 := fun t kt => go255 t (st256 _ kt)
  have go258 : Go p e below T256 (mkF m 12 #[.val (.ref a1)] [(.int (1 : Int32))]) S0 := by
    intro t kt
    refine go257 t ?_
    refine XS.ifNo X256.here hx rfl (hb hby d14_4) rfl ((if0 _ _).trans (flt hp).1) ?_
    refine XS.iconst X256.here hx rfl (hb hby d14_7) ?_
    refine XS.goto X256.here hx rfl (pc0 := 8) (pc' := 12) rfl (hb hby d14_8) (by decide) (by decide) ?_
    exact kt
  obtain ⟨fs, hr, hrun, hended, hW, hsame⟩ := X256.leave (v := some (.int (1 : Int32))) (fun h => by rw [Bd.returns] at h; cases h)
  refine ⟨_, _, go258 _ ?_, hrun, hended, _, _, rfl, ?_, ⟨_, rfl⟩, hW, hsame.mono (by decide) (by decide)⟩
  · show Steps p.tables e below (T256.setTop (mkF m 12 #[.val (.ref a1)] [(.int (1 : Int32))])) _
    exact retN X256 hx (t := .boolean) Bd.returns (by simp) (hb hby d14_12) hr
  · show Q_rm_hasOthersY Z a1 p3 h0 n0 _ T256.heap _
    rw [e256]
    exact ⟨rfl, N0, rfl⟩
theorem efj_rm_hasOthersN (m : MethodId) (a1 : Addr) : entryFrame m #[(.ref a1)] 1 = mkF m 0 #[.val (.ref a1)] [] := by first | (simp [entryFrame, mkF, argsToLocals, Value.category]; done) | rfl
theorem d14_11 : decode prog_7_method_3_code 11 = .ok (.iconst 0, 1) := by decide +kernel
def Q_rm_hasOthersN (Z : State) (a1 : Addr) (p3 : Int32) (h0 : Heap) (n0 : Nat) (v : Option Value) (h : Heap) (L : List Loc) : Prop := v = some (.int (0 : Int32)) ∧ Fr n0 L ∧ h = h0
set_option maxRecDepth 65536 in
set_option maxHeartbeats 40000000 in
theorem rm_hasOthersN (l : Launch) (Z : State) (a0 : Array Value) (hw : ∀ d ∈ tables_1, d.before a0 Z = true) (ws : List Jvm.Cond) (a1 : Addr) (p3 : Int32) (h0 : Heap) (n0 : Nat) (Z0 : n0 ≤ h0.size) (hp : p3 < (0 : Int32)) (F_othersAt_a1 : Fld Z h0 a1 "com/example/tinlet/tinlet/deploy/descriptor/FragmentNames" "othersAt" "I" (.int p3)) :
    MetFree l (⟨"com/example/tinlet/tinlet/deploy/descriptor/FragmentNames", "hasOthers", "()Z"⟩ : MethodName) (head1 (Jvm.Cond.code (⟨"com/example/tinlet/tinlet/deploy/descriptor/FragmentNames", "hasOthers", "()Z"⟩ : MethodName) prog_7_method_3_code 1 (some .boolean) :: ws) ({ frames := 0, cells := 0, slots := 0, locals := 0 } : Room)) (fun a U => a = #[(.ref a1)] ∧ Z.Warmed39 U.vm ∧ U.heap = h0) (fun _ _ _ _ _ => True) (fun _ U o U' => ∃ v L, o = .returned v ∧ Q_rm_hasOthersN Z a1 p3 h0 n0 v U'.heap L ∧ FrameEnd U o U' L ({ frames := 0, cells := 0, slots := 0, locals := 0 } : Room).cells ({ frames := 0, cells := 0, slots := 0, locals := 0 } : Room).slots) := by
  refine MetFree.of_bodySF (plainFor_of_name pnj_14) hisR ?_
  intro p e s m args below meth c s₁ Bd hml0 hP hK
  obtain ⟨rfl, hZ, hh⟩ := hP
  have hx := Bd.exec
  have hby := Bd.bytes
  have hml : c.maxLocals = 1 := hml0
  have hown : s.vm.findClass "com/example/tinlet/tinlet/deploy/descriptor/FragmentNames" = some m.cls := findClass_of_methodNamed Bd.named
  have hnm := (name_of_methodNamed Bd.named Bd.method).1
  have X0 : Stand p l e ({ frames := 0, cells := 0, slots := 0, locals := 0 } : Room) s m #[(.ref a1)] below meth c s₁ [] 0 0 := Stand.of_body Bd
  have e0 : s₁.heap = h0 := by rw [← hh, Bd.state]; rfl
  have N0 := Fr.nil n0
  have go0 : Go p e below s₁ (mkF m 0 #[.val (.ref a1)] []) (s₁.setTop (entryFrame m #[(.ref a1)] 1)) := fun t k => castTop (efj_rm_hasOthersN m a1) k
  generalize (s₁.setTop (entryFrame m #[(.ref a1)] 1)) = S0 at go0 ⊢
  have go259 : Go p e below s₁ (mkF m 1 #[.val (.ref a1)] [(.ref a1)]) S0 := by
    intro t kt
    refine go0 t ?_
    refine XS.aloadN X0.here hx rfl (hb hby d14_0) rfl rfl ?_
    exact kt
  obtain ⟨T260, X260, e260, st260⟩ := getF X0 hx hZ hown (host := "") (Or.inl (hw _ (List.mem_of_getElem? (i := 65) rfl))) Via.refl e0 F_othersAt_a1 (g := (mkF m 1 #[.val (.ref a1)] [(.ref a1)])) rfl rfl (hb hby d14_1)
  have go261 : Go p e below T260 (mkF m 4 #[.val (.ref a1)] [(.int p3)]) S0 := fun t kt => go259 t (st260 _ kt)
  have go262 : Go p e below T260 (mkF m 12 #[.val (.ref a1)] [(.int (0 : Int32))]) S0 := by
    intro t kt
    refine go261 t ?_
    refine XS.ifYes X260.here hx rfl (pc0 := 4) (pc' := 11) rfl (hb hby d14_4) rfl ((if0 _ _).trans (tlt hp).1) (by decide) (by decide) ?_
    refine XS.iconst X260.here hx rfl (hb hby d14_11) ?_
    exact kt
  obtain ⟨fs, hr, hrun, hended, hW, hsame⟩ := X260.leave (v := some (.int (0 : Int32))) (fun h => by rw [Bd.returns] at h; cases h)
  refine ⟨_, _, go262 _ ?_, hrun, hended, _, _, rfl, ?_, ⟨_, rfl⟩, hW, hsame.mono (by decide) (by decide)⟩
  · show Steps p.tables e below (T260.setTop (mkF m 12 #[.val (.ref a1)] [(.int (0 : Int32))])) _
    exact retN X260 hx (t := .boolean) Bd.returns (by simp) (hb hby d14_12) hr
  · show Q_rm_hasOthersN Z a1 p3 h0 n0 _ T260.heap _
    rw [e260]
    exact ⟨rfl, N0, rfl⟩
theorem pnj_15 : plainName "java/util/ImmutableCollections$ListN" = true := by first | (simp [plainName, overriddenIn]; done) | decide +kernel
theorem efj_rm_lnIsEmpty (m : MethodId) (el : Addr) : entryFrame m #[(.ref el)] 1 = mkF m 0 #[.val (.ref el)] [] := by first | (simp [entryFrame, mkF, argsToLocals, Value.category]; done) | rfl
theorem d15_0 : decode jdk_45_method_2_code 0 = .ok (.aload_n 0, 1) := by decide +kernel
theorem d15_1 : decode jdk_45_method_2_code 1 = .ok (.getfield 7, 3) := by decide +kernel
theorem d15_4 : decode jdk_45_method_2_code 4 = .ok (.arraylength, 1) := by decide +kernel
theorem d15_5 : decode jdk_45_method_2_code 5 = .ok (.ifCond .ne 7, 3) := by decide +kernel
theorem d15_8 : decode jdk_45_method_2_code 8 = .ok (.iconst 1, 1) := by decide +kernel
theorem d15_9 : decode jdk_45_method_2_code 9 = .ok (.goto 4, 3) := by decide +kernel
theorem d15_13 : decode jdk_45_method_2_code 13 = .ok (.ireturn, 1) := by decide +kernel
def Q_rm_lnIsEmpty (Z : State) (el : Addr) (ee : Addr) (ke : ClassId) (h0 : Heap) (n0 : Nat) (v : Option Value) (h : Heap) (L : List Loc) : Prop := v = some (.int (1 : Int32)) ∧ Fr n0 L ∧ h = h0
set_option maxRecDepth 65536 in
set_option maxHeartbeats 40000000 in
theorem rm_lnIsEmpty (l : Launch) (Z : State) (a0 : Array Value) (hw : ∀ d ∈ tables_1, d.before a0 Z = true) (ws : List Jvm.Cond) (el : Addr) (ee : Addr) (ke : ClassId) (h0 : Heap) (n0 : Nat) (Z0 : n0 ≤ h0.size) (F_elements_el : Fld Z h0 el "java/util/ImmutableCollections$ListN" "elements" "[Ljava/lang/Object;" (.ref ee)) (V_ee : Arv Z h0 ee ke (.object "java/lang/Object") (0 : Int32) [] .null) :
    MetFree l (⟨"java/util/ImmutableCollections$ListN", "isEmpty", "()Z"⟩ : MethodName) (head1 (Jvm.Cond.code (⟨"java/util/ImmutableCollections$ListN", "isEmpty", "()Z"⟩ : MethodName) jdk_45_method_2_code 1 (some .boolean) :: ws) ({ frames := 0, cells := 0, slots := 0, locals := 0 } : Room)) (fun a U => a = #[(.ref el)] ∧ Z.Warmed39 U.vm ∧ U.heap = h0) (fun _ _ _ _ _ => True) (fun _ U o U' => ∃ v L, o = .returned v ∧ Q_rm_lnIsEmpty Z el ee ke h0 n0 v U'.heap L ∧ FrameEnd U o U' L ({ frames := 0, cells := 0, slots := 0, locals := 0 } : Room).cells ({ frames := 0, cells := 0, slots := 0, locals := 0 } : Room).slots) := by
  refine MetFree.of_bodySF (plainFor_of_name pnj_15) hisR ?_
  intro p e s m args below meth c s₁ Bd hml0 hP hK
  obtain ⟨rfl, hZ, hh⟩ := hP
  have hx := Bd.exec
  have hby := Bd.bytes
  have hml : c.maxLocals = 1 := hml0
  have hown : s.vm.findClass "java/util/ImmutableCollections$ListN" = some m.cls := findClass_of_methodNamed Bd.named
  have hnm := (name_of_methodNamed Bd.named Bd.method).1
  have X0 : Stand p l e ({ frames := 0, cells := 0, slots := 0, locals := 0 } : Room) s m #[(.ref el)] below meth c s₁ [] 0 0 := Stand.of_body Bd
  have e0 : s₁.heap = h0 := by rw [← hh, Bd.state]; rfl
  have N0 := Fr.nil n0
  have go0 : Go p e below s₁ (mkF m 0 #[.val (.ref el)] []) (s₁.setTop (entryFrame m #[(.ref el)] 1)) := fun t k => castTop (efj_rm_lnIsEmpty m el) k
  generalize (s₁.setTop (entryFrame m #[(.ref el)] 1)) = S0 at go0 ⊢
  have go263 : Go p e below s₁ (mkF m 1 #[.val (.ref el)] [(.ref el)]) S0 := by
    intro t kt
    refine go0 t ?_
    refine XS.aloadN X0.here hx rfl (hb hby d15_0) rfl rfl ?_
    exact kt
  obtain ⟨T264, X264, e264, st264⟩ := getF X0 hx hZ hown (host := "") (Or.inl (hw _ (List.mem_of_getElem? (i := 87) rfl))) Via.refl e0 F_elements_el (g := (mkF m 1 #[.val (.ref el)] [(.ref el)])) rfl rfl (hb hby d15_1)
  have go265 : Go p e below T264 (mkF m 4 #[.val (.ref el)] [(.ref ee)]) S0 := fun t kt => go263 t (st264 _ kt)
  obtain ⟨cl266, Ar266, q266, S266, N266, H266, G266⟩ := id V_ee
  have go267 : Go p e below T264 (mkF m 13 #[.val (.ref el)] [(.int (1 : Int32))]) S0 := by
    intro t kt
    refine go265 t ?_
    refine X264.arraylength hx (by rw [e264]; exact Ar266.1) (State.isArrayOf_alike hZ.alike Ar266.2.1) (g := (mkF m 4 #[.val (.ref el)] [(.ref ee)])) rfl rfl (hb hby d15_4) _ ?_
    rw [len_of S266 N266]
    refine XS.ifNo X264.here hx rfl (hb hby d15_5) rfl ((if0 _ _).trans (teq rfl).2) ?_
    refine XS.iconst X264.here hx rfl (hb hby d15_8) ?_
    refine XS.goto X264.here hx rfl (pc0 := 9) (pc' := 13) rfl (hb hby d15_9) (by decide) (by decide) ?_
    exact kt
  obtain ⟨fs, hr, hrun, hended, hW, hsame⟩ := X264.leave (v := some (.int (1 : Int32))) (fun h => by rw [Bd.returns] at h; cases h)
  refine ⟨_, _, go267 _ ?_, hrun, hended, _, _, rfl, ?_, ⟨_, rfl⟩, hW, hsame.mono (by decide) (by decide)⟩
  · show Steps p.tables e below (T264.setTop (mkF m 13 #[.val (.ref el)] [(.int (1 : Int32))])) _
    exact retN X264 hx (t := .boolean) Bd.returns (by simp) (hb hby d15_13) hr
  · show Q_rm_lnIsEmpty Z el ee ke h0 n0 _ T264.heap _
    rw [e264]
    exact ⟨rfl, N0, rfl⟩
theorem pnj_16 : plainName "com/example/tinlet/tinlet/deploy/descriptor/FragmentNames" = true := by first | (simp [plainName, overriddenIn]; done) | decide +kernel
theorem efj_rm_fnIsEmptyY (m : MethodId) (a1 : Addr) : entryFrame m #[(.ref a1)] 1 = mkF m 0 #[.val (.ref a1)] [] := by first | (simp [entryFrame, mkF, argsToLocals, Value.category]; done) | rfl
theorem d16_0 : decode prog_7_method_5_code 0 = .ok (.aload_n 0, 1) := by decide +kernel
theorem d16_1 : decode prog_7_method_5_code 1 = .ok (.getfield 13, 3) := by decide +kernel
theorem pdj___Z : parseMethodDescriptor "()Z" = some ⟨[], some .boolean⟩ := by decide +kernel
theorem d16_4 : decode prog_7_method_5_code 4 = .ok (.invokeinterface 23 1, 5) := by decide +kernel
theorem d16_9 : decode prog_7_method_5_code 9 = .ok (.ifCond .eq 14, 3) := by decide +kernel
theorem d16_12 : decode prog_7_method_5_code 12 = .ok (.aload_n 0, 1) := by decide +kernel
theorem d16_13 : decode prog_7_method_5_code 13 = .ok (.getfield 19, 3) := by decide +kernel
theorem d16_16 : decode prog_7_method_5_code 16 = .ok (.ifCond .ge 7, 3) := by decide +kernel
theorem d16_23 : decode prog_7_method_5_code 23 = .ok (.iconst 0, 1) := by decide +kernel
theorem d16_24 : decode prog_7_method_5_code 24 = .ok (.ireturn, 1) := by decide +kernel
def Q_rm_fnIsEmptyY (Z : State) (a1 : Addr) (p3 : Int32) (el : Addr) (ee : Addr) (ke : ClassId) (h0 : Heap) (n0 : Nat) (v : Option Value) (h : Heap) (L : List Loc) : Prop := v = some (.int (0 : Int32)) ∧ Fr n0 L ∧ h = h0
set_option maxRecDepth 65536 in
set_option maxHeartbeats 40000000 in
theorem rm_fnIsEmptyY (l : Launch) (Z : State) (a0 : Array Value) (hw : ∀ d ∈ tables_1, d.before a0 Z = true) (ws : List Jvm.Cond) (a1 : Addr) (p3 : Int32) (el : Addr) (ee : Addr) (ke : ClassId) (h0 : Heap) (n0 : Nat) (Z0 : n0 ≤ h0.size) (hp : ¬ p3 < (0 : Int32)) (F_othersAt_a1 : Fld Z h0 a1 "com/example/tinlet/tinlet/deploy/descriptor/FragmentNames" "othersAt" "I" (.int p3)) (F_names_a1 : Fld Z h0 a1 "com/example/tinlet/tinlet/deploy/descriptor/FragmentNames" "names" "Ljava/util/List;" (.ref el)) (E_el : Exa Z h0 el "java/util/ImmutableCollections$ListN") (F_elements_el : Fld Z h0 el "java/util/ImmutableCollections$ListN" "elements" "[Ljava/lang/Object;" (.ref ee)) (V_ee : Arv Z h0 ee ke (.object "java/lang/Object") (0 : Int32) [] .null) :
    MetFree l (⟨"com/example/tinlet/tinlet/deploy/descriptor/FragmentNames", "isEmpty", "()Z"⟩ : MethodName) (head1 (Jvm.Cond.code (⟨"com/example/tinlet/tinlet/deploy/descriptor/FragmentNames", "isEmpty", "()Z"⟩ : MethodName) prog_7_method_5_code 1 (some .boolean) :: ws) ({ frames := 1, cells := 0, slots := 0, locals := 12 } : Room)) (fun a U => a = #[(.ref a1)] ∧ Z.Warmed39 U.vm ∧ U.heap = h0) (fun _ _ _ _ _ => True) (fun _ U o U' => ∃ v L, o = .returned v ∧ Q_rm_fnIsEmptyY Z a1 p3 el ee ke h0 n0 v U'.heap L ∧ FrameEnd U o U' L ({ frames := 1, cells := 0, slots := 0, locals := 12 } : Room).cells ({ frames := 1, cells := 0, slots := 0, locals := 12 } : Room).slots) := by
  refine MetFree.of_bodySF (plainFor_of_name pnj_16) hisR ?_
  intro p e s m args below meth c s₁ Bd hml0 hP hK
  obtain ⟨rfl, hZ, hh⟩ := hP
  have hx := Bd.exec
  have hby := Bd.bytes
  have hml : c.maxLocals = 1 := hml0
  have hown : s.vm.findClass "com/example/tinlet/tinlet/deploy/descriptor/FragmentNames" = some m.cls := findClass_of_methodNamed Bd.named
  have hnm := (name_of_methodNamed Bd.named Bd.method).1
  have X0 : Stand p l e ({ frames := 1, cells := 0, slots := 0, locals := 12 } : Room) s m #[(.ref a1)] below meth c s₁ [] 0 0 := Stand.of_body Bd
  have e0 : s₁.heap = h0 := by rw [← hh, Bd.state]; rfl
  have N0 := Fr.nil n0
  have go0 : Go p e below s₁ (mkF m 0 #[.val (.ref a1)] []) (s₁.setTop (entryFrame m #[(.ref a1)] 1)) := fun t k => castTop (efj_rm_fnIsEmptyY m a1) k
  generalize (s₁.setTop (entryFrame m #[(.ref a1)] 1)) = S0 at go0 ⊢
  have go268 : Go p e below s₁ (mkF m 1 #[.val (.ref a1)] [(.ref a1)]) S0 := by
    intro t kt
    refine go0 t ?_
    refine XS.aloadN X0.here hx rfl (hb hby d16_0) rfl rfl ?_
    exact kt
  obtain ⟨T269, X269, e269, st269⟩ := getF X0 hx hZ hown (host := "") (Or.inl (hw _ (List.mem_of_getElem? (i := 63) rfl))) Via.refl e0 F_names_a1 (g := (mkF m 1 #[.val (.ref a1)] [(.ref a1)])) rfl rfl (hb hby d16_1)
  have go270 : Go p e below T269 (mkF m 4 #[.val (.ref a1)] [(.ref el)]) S0 := fun t kt => go268 t (st269 _ kt)
  obtain ⟨cq271, kq271, q271a, q271b, q271c⟩ := isOf hZ e269 E_el
  obtain ⟨_, _, ⟨T271, L271, k271, n271⟩, -, X271, ⟨Lc271, hQ271, l271, y271, z271⟩, st271⟩ := X269.interfaceBack hx (C := "java/util/ImmutableCollections$ListN") (xi := (⟨"java/util/List", "isEmpty", "()Z"⟩ : MethodName)) (y := (⟨"java/util/ImmutableCollections$ListN", "isEmpty", "()Z"⟩ : MethodName)) hown (mvT hZ (hw _ (List.mem_of_getElem? (i := 77) rfl))) (mvT hZ (hw _ (List.mem_of_getElem? (i := 78) rfl))) (mvT hZ (hw _ (List.mem_of_getElem? (i := 79) rfl))) (mvT hZ (hw _ (List.mem_of_getElem? (i := 80) rfl))) (mvT hZ (hw _ (List.mem_of_getElem? (i := 81) rfl))) (mvT hZ (hw _ (List.mem_of_getElem? (i := 82) rfl))) (mvT hZ (hw _ (List.mem_of_getElem? (i := 83) rfl))) (mvT hZ (hw _ (List.mem_of_getElem? (i := 84) rfl))) (by decide) (backOf (W := 0) (rm_lnIsEmpty l Z a0 hw [] el ee ke h0 n0 Z0 F_elements_el V_ee) hZ (hw _ (List.mem_of_getElem? (i := 86) rfl)) (hw _ (List.mem_of_getElem? (i := 85) rfl)) (by decide) (by decide)) q271a q271b q271c (g := (mkF m 4 #[.val (.ref a1)] [(.ref el)])) rfl (by rw [hml]; rfl) (Steps.refl _) (argsL := []) (rest := []) (lenOf pdj___Z rfl) rfl (by show 2 * 0 + _ ≤ _; exact Nat.le_of_eq rfl) (hb hby d16_4) (fun _ _ => ⟨rfl, e269, (by decide : 0 + 0 ≤ _), (by decide : 0 + 0 ≤ _)⟩)
  dsimp only [Pt.U, Pt.locs, Pt.cells, Pt.slots] at X271 l271 y271 z271 st271 hQ271
  subst l271 y271 z271
  obtain ⟨rfl, N271q, g271⟩ := hQ271
  rw [← g271] at F_othersAt_a1 F_names_a1 E_el Z0
  have N271 := Fr.app N0 N271q
  have go272 : Go p e below T271 (mkF m 9 #[.val (.ref a1)] [(.int (1 : Int32))]) S0 := fun t kt => go270 t (st271.trans kt)
  have go273 : Go p e below T271 (mkF m 13 #[.val (.ref a1)] [(.ref a1)]) S0 := by
    intro t kt
    refine go272 t ?_
    refine XS.ifNo X271.here hx rfl (hb hby d16_9) rfl ((if0 _ _).trans (feq (by decide)).1) ?_
    refine XS.aloadN X271.here hx rfl (hb hby d16_12) rfl rfl ?_
    exact kt
  obtain ⟨T274, X274, e274, st274⟩ := getF X271 hx hZ hown (host := "") (Or.inl (hw _ (List.mem_of_getElem? (i := 65) rfl))) Via.refl rfl F_othersAt_a1 (g := (mkF m 13 #[.val (.ref a1)] [(.ref a1)])) rfl rfl (hb hby d16_13)
  have go275 : Go p e below T274 (mkF m 16 #[.val (.ref a1)] [(.int p3)]) S0 := fun t kt => go273 t (st274 _ kt)
  have go276 : Go p e below T274 (mkF m 24 #[.val (.ref a1)] [(.int (0 : Int32))]) S0 := by
    intro t kt
    refine go275 t ?_
    refine XS.ifYes X274.here hx rfl (pc0 := 16) (pc' := 23) rfl (hb hby d16_16) rfl ((if0 _ _).trans (flt hp).2.1) (by decide) (by decide) ?_
    refine XS.iconst X274.here hx rfl (hb hby d16_23) ?_
    exact kt
  obtain ⟨fs, hr, hrun, hended, hW, hsame⟩ := X274.leave (v := some (.int (0 : Int32))) (fun h => by rw [Bd.returns] at h; cases h)
  refine ⟨_, _, go276 _ ?_, hrun, hended, _, _, rfl, ?_, ⟨_, rfl⟩, hW, hsame.mono (by decide) (by decide)⟩
  · show Steps p.tables e below (T274.setTop (mkF m 24 #[.val (.ref a1)] [(.int (0 : Int32))])) _
    exact retN X274 hx (t := .boolean) Bd.returns (by simp) (hb hby d16_24) hr
  · show Q_rm_fnIsEmptyY Z a1 p3 el ee ke h0 n0 _ T274.heap _
    rw [e274]
    exact ⟨rfl, N271, by first | rfl | exact g271⟩
theorem efj_rm_fnIsEmptyN (m : MethodId) (a1 : Addr) : entryFrame m #[(.ref a1)] 1 = mkF m 0 #[.val (.ref a1)] [] := by first | (simp [entryFrame, mkF, argsToLocals, Value.category]; done) | rfl
theorem d16_19 : decode prog_7_method_5_code 19 = .ok (.iconst 1, 1) := by decide +kernel
theorem d16_20 : decode prog_7_method_5_code 20 = .ok (.goto 4, 3) := by decide +kernel
def Q_rm_fnIsEmptyN (Z : State) (a1 : Addr) (p3 : Int32) (el : Addr) (ee : Addr) (ke : ClassId) (h0 : Heap) (n0 : Nat) (v : Option Value) (h : Heap) (L : List Loc) : Prop := v = some (.int (1 : Int32)) ∧ Fr n0 L ∧ h = h0
set_option maxRecDepth 65536 in
set_option maxHeartbeats 40000000 in
theorem rm_fnIsEmptyN (l : Launch) (Z : State) (a0 : Array Value) (hw : ∀ d ∈ tables_1, d.before a0 Z = true) (ws : List Jvm.Cond) (a1 : Addr) (p3 : Int32) (el : Addr) (ee : Addr) (ke : ClassId) (h0 : Heap) (n0 : Nat) (Z0 : n0 ≤ h0.size) (hp : p3 < (0 : Int32)) (F_othersAt_a1 : Fld Z h0 a1 "com/example/tinlet/tinlet/deploy/descriptor/FragmentNames" "othersAt" "I" (.int p3)) (F_names_a1 : Fld Z h0 a1 "com/example/tinlet/tinlet/deploy/descriptor/FragmentNames" "names" "Ljava/util/List;" (.ref el)) (E_el : Exa Z h0 el "java/util/ImmutableCollections$ListN") (F_elements_el : Fld Z h0 el "java/util/ImmutableCollections$ListN" "elements" "[Ljava/lang/Object;" (.ref ee)) (V_ee : Arv Z h0 ee ke (.object "java/lang/Object") (0 : Int32) [] .null) :
    MetFree l (⟨"com/example/tinlet/tinlet/deploy/descriptor/FragmentNames", "isEmpty", "()Z"⟩ : MethodName) (head1 (Jvm.Cond.code (⟨"com/example/tinlet/tinlet/deploy/descriptor/FragmentNames", "isEmpty", "()Z"⟩ : MethodName) prog_7_method_5_code 1 (some .boolean) :: ws) ({ frames := 1, cells := 0, slots := 0, locals := 12 } : Room)) (fun a U => a = #[(.ref a1)] ∧ Z.Warmed39 U.vm ∧ U.heap = h0) (fun _ _ _ _ _ => True) (fun _ U o U' => ∃ v L, o = .returned v ∧ Q_rm_fnIsEmptyN Z a1 p3 el ee ke h0 n0 v U'.heap L ∧ FrameEnd U o U' L ({ frames := 1, cells := 0, slots := 0, locals := 12 } : Room).cells ({ frames := 1, cells := 0, slots := 0, locals := 12 } : Room).slots) := by
  refine MetFree.of_bodySF (plainFor_of_name pnj_16) hisR ?_
  intro p e s m args below meth c s₁ Bd hml0 hP hK
  obtain ⟨rfl, hZ, hh⟩ := hP
  have hx := Bd.exec
  have hby := Bd.bytes
  have hml : c.maxLocals = 1 := hml0
  have hown : s.vm.findClass "com/example/tinlet/tinlet/deploy/descriptor/FragmentNames" = some m.cls := findClass_of_methodNamed Bd.named
  have hnm := (name_of_methodNamed Bd.named Bd.method).1
  have X0 : Stand p l e ({ frames := 1, cells := 0, slots := 0, locals := 12 } : Room) s m #[(.ref a1)] below meth c s₁ [] 0 0 := Stand.of_body Bd
  have e0 : s₁.heap = h0 := by rw [← hh, Bd.state]; rfl
  have N0 := Fr.nil n0
  have go0 : Go p e below s₁ (mkF m 0 #[.val (.ref a1)] []) (s₁.setTop (entryFrame m #[(.ref a1)] 1)) := fun t k => castTop (efj_rm_fnIsEmptyN m a1) k
  generalize (s₁.setTop (entryFrame m #[(.ref a1)] 1)) = S0 at go0 ⊢
  have go277 : Go p e below s₁ (mkF m 1 #[.val (.ref a1)] [(.ref a1)]) S0 := by
    intro t kt
    refine go0 t ?_
    refine XS.aloadN X0.here hx rfl (hb hby d16_0) rfl rfl ?_
    exact kt
  obtain ⟨T278, X278, e278, st278⟩ := getF X0 hx hZ hown (host := "") (Or.inl (hw _ (List.mem_of_getElem? (i := 63) rfl))) Via.refl e0 F_names_a1 (g := (mkF m 1 #[.val (.ref a1)] [(.ref a1)])) rfl rfl (hb hby d16_1)
  have go279 : Go p e below T278 (mkF m 4 #[.val (.ref a1)] [(.ref el)]) S0 := fun t kt => go277 t (st278 _ kt)
  obtain ⟨cq280, kq280, q280a, q280b, q280c⟩ := isOf hZ e278 E_el
  obtain ⟨_, _, ⟨T280, L280, k280, n280⟩, -, X280, ⟨Lc280, hQ280, l280, y280, z280⟩, st280⟩ := X278.interfaceBack hx (C := "java/util/ImmutableCollections$ListN") (xi := (⟨"java/util/List", "isEmpty", "()Z"⟩ : MethodName)) (y := (⟨"java/util/ImmutableCollections$ListN", "isEmpty", "()Z"⟩ : MethodName)) hown (mvT hZ (hw _ (List.mem_of_getElem? (i := 77) rfl))) (mvT hZ (hw _ (List.mem_of_getElem? (i := 78) rfl))) (mvT hZ (hw _ (List.mem_of_getElem? (i := 79) rfl))) (mvT hZ (hw _ (List.mem_of_getElem? (i := 80) rfl))) (mvT hZ (hw _ (List.mem_of_getElem? (i := 81) rfl))) (mvT hZ (hw _ (List.mem_of_getElem? (i := 82) rfl))) (mvT hZ (hw _ (List.mem_of_getElem? (i := 83) rfl))) (mvT hZ (hw _ (List.mem_of_getElem? (i := 84) rfl))) (by decide) (backOf (W := 0) (rm_lnIsEmpty l Z a0 hw [] el ee ke h0 n0 Z0 F_elements_el V_ee) hZ (hw _ (List.mem_of_getElem? (i := 86) rfl)) (hw _ (List.mem_of_getElem? (i := 85) rfl)) (by decide) (by decide)) q280a q280b q280c (g := (mkF m 4 #[.val (.ref a1)] [(.ref el)])) rfl (by rw [hml]; rfl) (Steps.refl _) (argsL := []) (rest := []) (lenOf pdj___Z rfl) rfl (by show 2 * 0 + _ ≤ _; exact Nat.le_of_eq rfl) (hb hby d16_4) (fun _ _ => ⟨rfl, e278, (by decide : 0 + 0 ≤ _), (by decide : 0 + 0 ≤ _)⟩)
  dsimp only [Pt.U, Pt.locs, Pt.cells, Pt.slots] at X280 l280 y280 z280 st280 hQ280
  subst l280 y280 z280
  obtain ⟨rfl, N280q, g280⟩ := hQ280
  rw [← g280] at F_othersAt_a1 F_names_a1 E_el Z0
  have N280 := Fr.app N0 N280q
  have go281 : Go p e below T280 (mkF m 9 #[.val (.ref a1)] [(.int (1 : Int32))]) S0 := fun t kt => go279 t (st280.trans kt)
  have go282 : Go p e below T280 (mkF m 13 #[.val (.ref a1)] [(.ref a1)]) S0 := by
    intro t kt
    refine go281 t ?_
    refine XS.ifNo X280.here hx rfl (hb hby d16_9) rfl ((if0 _ _).trans (feq (by decide)).1) ?_
    refine XS.aloadN X280.here hx rfl (hb hby d16_12) rfl rfl ?_
    exact kt
  obtain ⟨T283, X283, e283, st283⟩ := getF X280 hx hZ hown (host := "") (Or.inl (hw _ (List.mem_of_getElem? (i := 65) rfl))) Via.refl rfl F_othersAt_a1 (g := (mkF m 13 #[.val (.ref a1)] [(.ref a1)])) rfl rfl (hb hby d16_13)
  have go284 : Go p e below T283 (mkF m 16 #[.val (.ref a1)] [(.int p3)]) S0 := fun t kt => go282 t (st283 _ kt)
  have go285 : Go p e below T283 (mkF m 24 #[.val (.ref a1)] [(.int (1 : Int32))]) S0 := by
    intro t kt
    refine go284 t ?_
    refine XS.ifNo X283.here hx rfl (hb hby d16_16) rfl ((if0 _ _).trans (tlt hp).2.1) ?_
    refine XS.iconst X283.here hx rfl (hb hby d16_19) ?_
    refine XS.goto X283.here hx rfl (pc0 := 20) (pc' := 24) rfl (hb hby d16_20) (by decide) (by decide) ?_
    exact kt
  obtain ⟨fs, hr, hrun, hended, hW, hsame⟩ := X283.leave (v := some (.int (1 : Int32))) (fun h => by rw [Bd.returns] at h; cases h)
  refine ⟨_, _, go285 _ ?_, hrun, hended, _, _, rfl, ?_, ⟨_, rfl⟩, hW, hsame.mono (by decide) (by decide)⟩
  · show Steps p.tables e below (T283.setTop (mkF m 24 #[.val (.ref a1)] [(.int (1 : Int32))])) _
    exact retN X283 hx (t := .boolean) Bd.returns (by simp) (hb hby d16_24) hr
  · show Q_rm_fnIsEmptyN Z a1 p3 el ee ke h0 n0 _ T283.heap _
    rw [e283]
    exact ⟨rfl, N280, by first | rfl | exact g280⟩
theorem own_et {a b c : Heap} (h : Ext a b) (k : Ext b c) : Ext a c := ⟨Nat.le_trans h.1 k.1, fun x q r => k.2 x q (h.2 x q r)⟩
theorem own_and3 (x : Int32) : x &&& (3 : Int32) = (0 : Int32) ∨ x &&& (3 : Int32) = (1 : Int32) ∨ x &&& (3 : Int32) = (2 : Int32) ∨ x &&& (3 : Int32) = (3 : Int32) := by
  have h := Jvm.Kit.i32_mask x 3 (k := 2) (by decide) (by decide)
  rcases (by omega : x.toInt % 2 ^ 2 = 0 ∨ x.toInt % 2 ^ 2 = 1 ∨ x.toInt % 2 ^ 2 = 2 ∨ x.toInt % 2 ^ 2 = 3) with q | q | q | q <;> rw [q] at h
  · exact Or.inl (Int32.toInt_inj.mp h)
  · exact Or.inr (Or.inl (Int32.toInt_inj.mp h))
  · exact Or.inr (Or.inr (Or.inl (Int32.toInt_inj.mp h)))
  · exact Or.inr (Or.inr (Or.inr (Int32.toInt_inj.mp h)))
theorem own_c256 : ∀ m < 256, ¬ (255 : Int32) < (Int32.ofNat m).toUInt32.toUInt16.toUInt32.toInt32 := by decide +kernel
theorem own_c (x : Int32) : ¬ (255 : Int32) < (x &&& (255 : Int32)).toUInt32.toUInt16.toUInt32.toInt32 := by
  have h := Jvm.Kit.i32_mask x 255 (k := 8) (by decide) (by decide)
  have e : x &&& (255 : Int32) = Int32.ofNat (x.toInt % 2 ^ 8).toNat := Int32.toInt_inj.mp (by rw [h, Int32.toInt_ofNat_of_lt (by omega)]; omega)
  rw [e]
  exact own_c256 _ (by omega)
theorem own_k (x d k : Int32) (hd : 0 < d.toInt) (hk : k = ((x &&& (2147483647 : Int32)) - ((x &&& (2147483647 : Int32)) / d) * d) - (1 : Int32)) : k < (0 : Int32) → k = (-1 : Int32) := by
  intro q
  have h := Jvm.Kit.i32_mask x 2147483647 (k := 31) (by decide) (by decide)
  have e : ((x &&& (2147483647 : Int32)) - ((x &&& (2147483647 : Int32)) / d) * d).toInt = (x.toInt % 2 ^ 31).tmod d.toInt := by rw [Jvm.LawKit.rem_toInt, h]
  have e2 : 0 ≤ (x.toInt % 2 ^ 31).tmod d.toInt := Int.tmod_nonneg _ (by omega)
  generalize ((x &&& (2147483647 : Int32)) - ((x &&& (2147483647 : Int32)) / d) * d) = r at e hk
  have e1 : (1 : Int32).toInt = 1 := rfl
  have e3 := r.toInt_lt
  have e4 : (r - 1).toInt = r.toInt - 1 := by rw [Jvm.Kit.i32_sub (by omega) (by omega), e1]
  rw [hk] at q ⊢
  rw [Int32.lt_iff_toInt_lt, e4] at q
  have e5 : (0 : Int32).toInt = 0 := rfl
  apply Int32.toInt_inj.mp
  rw [e4]
  have e6 : (-1 : Int32).toInt = -1 := rfl
  omega
theorem pnj_0 : plainName "com/example/tinlet/tinlet/deploy/descriptor/FragmentNamesHasOthersPinLaw" = true := by first | (simp [plainName, overriddenIn]; done) | decide +kernel
theorem efj_rm0 (m : MethodId) (i0 : Int32) (i1 : Int32) (i2 : Int32) : entryFrame m #[(.int i0), (.int i1), (.int i2)] maxLocals = mkF m 0 #[.val (.int i0), .val (.int i1), .val (.int i2), .unset, .unset, .unset, .unset, .unset, .unset] [] := by first | (simp [entryFrame, mkF, argsToLocals, Value.category, maxLocals]; done) | rfl
theorem pdj__Ljava_util_List_I_V : parseMethodDescriptor "(Ljava/util/List;I)V" = some ⟨[(.object "java/util/List"), .int], none⟩ := by decide +kernel
theorem pdj__C_Ljava_lang_String_ : parseMethodDescriptor "(C)Ljava/lang/String;" = some ⟨[.char], some (.object "java/lang/String")⟩ := by decide +kernel
theorem pdj__Ljava_lang_Object__Z : parseMethodDescriptor "(Ljava/lang/Object;)Z" = some ⟨[(.object "java/lang/Object")], some .boolean⟩ := by decide +kernel
def Q_rm0 (Z : State) (i0 : Int32) (i1 : Int32) (i2 : Int32) (zc : Int32) (dc : Addr) (kd : ClassId) (em : Addr) (el : Addr) (ee : Addr) (ke : ClassId) (h0 : Heap) (n0 : Nat) (v : Option Value) (h : Heap) (L : List Loc) : Prop := v = some (.int (1 : Int32)) ∧ Fr n0 L
set_option maxRecDepth 65536 in
set_option maxHeartbeats 40000000 in
theorem rm0 (l : Launch) (Z : State) (a0 : Array Value) (hw : ∀ d ∈ tables_1, d.before a0 Z = true) (ws : List Jvm.Cond) (i0 : Int32) (i1 : Int32) (i2 : Int32) (zc : Int32) (dc : Addr) (kd : ClassId) (em : Addr) (el : Addr) (ee : Addr) (ke : ClassId) (h0 : Heap) (n0 : Nat) (Z0 : n0 ≤ h0.size) (O0 : Ext Z.heap h0) (hn0 : Z.heap.size ≤ n0) (P5 : ¬ zc = (0 : Int32)) (S_CS : Sta Z Z.heap "java/lang/String" "COMPACT_STRINGS" "Z" (.int zc)) (S_DC : Sta Z Z.heap "java/util/ArrayList" "DEFAULTCAPACITY_EMPTY_ELEMENTDATA" "[Ljava/lang/Object;" (.ref dc)) (V_dc : Arv Z Z.heap dc kd (.object "java/lang/Object") (0 : Int32) [] .null) (E_dc : Exa Z Z.heap dc "[Ljava/lang/Object;") (S_em : Sta Z Z.heap "java/util/ImmutableCollections" "EMPTY" "Ljava/lang/Object;" (.ref em)) (S_el : Sta Z Z.heap "java/util/ImmutableCollections" "EMPTY_LIST" "Ljava/util/ImmutableCollections$ListN;" (.ref el)) (E_el : Exa Z Z.heap el "java/util/ImmutableCollections$ListN") (F_elements_el : Fld Z Z.heap el "java/util/ImmutableCollections$ListN" "elements" "[Ljava/lang/Object;" (.ref ee)) (V_ee : Arv Z Z.heap ee ke (.object "java/lang/Object") (0 : Int32) [] .null) (hm : ∃ (c : ClassId) (k : Class) (m : Addr), Z.vm.findClass "[Ljava/lang/Object;" = some c ∧ Z.vm.classes[c]? = some k ∧ k.mirror = some m) :
    MetFree l x (head1 (Jvm.Cond.code x code maxLocals ret :: ws) room_1) (fun a U => a = #[(.int i0), (.int i1), (.int i2)] ∧ Z.Warmed39 U.vm ∧ U.heap = h0) (fun _ _ _ _ _ => True) (fun _ U o U' => ∃ v L, o = .returned v ∧ Q_rm0 Z i0 i1 i2 zc dc kd em el ee ke h0 n0 v U'.heap L ∧ FrameEnd U o U' L room_1.cells room_1.slots) := by
  refine MetFree.of_bodySF (plainFor_of_name pnj_0) hisR ?_
  intro p e s m args below meth c s₁ Bd hml0 hP hK
  obtain ⟨rfl, hZ, hh⟩ := hP
  have hx := Bd.exec
  have hby := Bd.bytes
  have hml : c.maxLocals = 9 := hml0
  have hown : s.vm.findClass "com/example/tinlet/tinlet/deploy/descriptor/FragmentNamesHasOthersPinLaw" = some m.cls := findClass_of_methodNamed Bd.named
  have hnm := (name_of_methodNamed Bd.named Bd.method).1
  have X0 : Stand p l e room_1 s m #[(.int i0), (.int i1), (.int i2)] below meth c s₁ [] 0 0 := Stand.of_body Bd
  have e0 : s₁.heap = h0 := by rw [← hh, Bd.state]; rfl
  have N0 := Fr.nil n0
  have go0 : Go p e below s₁ (mkF m 0 #[.val (.int i0), .val (.int i1), .val (.int i2), .unset, .unset, .unset, .unset, .unset, .unset] []) (s₁.setTop (entryFrame m #[(.int i0), (.int i1), (.int i2)] maxLocals)) := fun t k => castTop (efj_rm0 m i0 i1 i2) k
  generalize (s₁.setTop (entryFrame m #[(.int i0), (.int i1), (.int i2)] maxLocals)) = S0 at go0 ⊢
  have K0 : Keep h0 h0 [] := Keep.refl h0 []
  have go286 : Go p e below s₁ (mkF m 4 #[.val (.int i0), .val (.int i1), .val (.int i2), .val (.int (i0 &&& (3 : Int32))), .unset, .unset, .unset, .unset, .unset] []) S0 := by
    intro t kt
    refine go0 t ?_
    refine XS.iloadN X0.here hx rfl (hb hby at_0) rfl ?_
    refine XS.iconst X0.here hx rfl (hb hby at_1) ?_
    refine XS.iand X0.here hx rfl (hb hby at_2) rfl ?_
    refine XS.istoreN X0.here hx rfl (hb hby at_3) rfl (l' := #[.val (.int i0), .val (.int i1), .val (.int i2), .val (.int (i0 &&& (3 : Int32))), .unset, .unset, .unset, .unset, .unset]) rfl ?_
    exact kt
  rcases own_and3 i0 with hn | hn | hn | hn
  · have go287 : Go p e below s₁ (mkF m 4 #[.val (.int i0), .val (.int i1), .val (.int i2), .val (.int (0 : Int32)), .unset, .unset, .unset, .unset, .unset] []) S0 := by have q := go286; rw [hn] at q; exact q
    have go288 : Go p e below s₁ (mkF m 16 #[.val (.int i0), .val (.int i1), .val (.int i2), .val (.int (0 : Int32)), .val (.int (((i1 &&& (2147483647 : Int32)) - ((i1 &&& (2147483647 : Int32)) / (2 : Int32)) * (2 : Int32)) - (1 : Int32))), .unset, .unset, .unset, .unset] []) S0 := by
      intro t kt
      refine go287 t ?_
      refine XS.iloadN X0.here hx rfl (hb hby at_4) rfl ?_
      refine X0.ldcInt hx hown (mvT hZ (hw _ (List.mem_of_getElem? (i := 0) rfl))) (g := (mkF m 5 #[.val (.int i0), .val (.int i1), .val (.int i2), .val (.int (0 : Int32)), .unset, .unset, .unset, .unset, .unset] [(.int i1)])) rfl (hb hby at_5) _ ?_
      refine XS.iand X0.here hx rfl (hb hby at_7) rfl ?_
      refine XS.iloadN X0.here hx rfl (hb hby at_8) rfl ?_
      refine XS.iconst X0.here hx rfl (hb hby at_9) ?_
      refine XS.iadd X0.here hx rfl (hb hby at_10) rfl ?_
      show Steps p.tables e below (s₁.setTop (mkF m 11 #[.val (.int i0), .val (.int i1), .val (.int i2), .val (.int (0 : Int32)), .unset, .unset, .unset, .unset, .unset] [(.int (2 : Int32)), (.int (i1 &&& (2147483647 : Int32)))])) _
      refine XS.irem X0.here hx rfl (hb hby at_11) rfl (by decide) ?_
      refine XS.iconst X0.here hx rfl (hb hby at_12) ?_
      refine XS.isub X0.here hx rfl (hb hby at_13) rfl ?_
      refine XS.istore X0.here hx rfl (hb hby at_14) rfl (l' := #[.val (.int i0), .val (.int i1), .val (.int i2), .val (.int (0 : Int32)), .val (.int (((i1 &&& (2147483647 : Int32)) - ((i1 &&& (2147483647 : Int32)) / (2 : Int32)) * (2 : Int32)) - (1 : Int32))), .unset, .unset, .unset, .unset]) rfl ?_
      exact kt
    obtain ⟨kk, hkk⟩ : ∃ z : Int32, z = (((i1 &&& (2147483647 : Int32)) - ((i1 &&& (2147483647 : Int32)) / (2 : Int32)) * (2 : Int32)) - (1 : Int32)) := ⟨_, rfl⟩
    have go289 : Go p e below s₁ (mkF m 16 #[.val (.int i0), .val (.int i1), .val (.int i2), .val (.int (0 : Int32)), .val (.int kk), .unset, .unset, .unset, .unset] []) S0 := by rw [hkk]; exact go288
    have hkl := own_k i1 (2 : Int32) kk (by decide) hkk
    by_cases hk0 : kk < (0 : Int32)
    · have hkm := hkl hk0
      obtain ⟨T290, h290, X290, e290, E290, A290, D290, -, st290⟩ := newO X0 hx hZ hown (hw _ (List.mem_of_getElem? (i := 1) rfl)) (hw _ (List.mem_of_getElem? (i := 2) rfl)) (hw _ (List.mem_of_getElem? (i := 3) rfl)) e0 (g := (mkF m 16 #[.val (.int i0), .val (.int i1), .val (.int i2), .val (.int (0 : Int32)), .val (.int kk), .unset, .unset, .unset, .unset] [])) rfl (hb hby at_16) (by decide) (by decide)
      obtain ⟨al, g290⟩ : ∃ z, z = h0.size := ⟨_, rfl⟩
      rw [← g290] at A290 D290 st290
      have g_al : n0 ≤ al := Nat.le_trans Z0 (Nat.le_of_eq g290.symm)
      have sz_al : h0.size ≤ al := Nat.le_trans K0.1 (Nat.le_of_eq g290.symm)
      have Z0 := Nat.le_trans Z0 E290.1
      have K0 := K0.ext E290
      have go291 : Go p e below T290 (mkF m 19 #[.val (.int i0), .val (.int i1), .val (.int i2), .val (.int (0 : Int32)), .val (.int kk), .unset, .unset, .unset, .unset] [(.ref al)]) S0 := fun t kt => go289 t (st290 _ kt)
      have E_al := A290
      have F_modCount_al : Fld Z h290 al "java/util/AbstractList" "modCount" "I" (.int (0 : Int32)) := D290 (Or.inl (hw _ (List.mem_of_getElem? (i := 23) rfl))) (ty := .int) (by decide)
      have F_elementData_al : Fld Z h290 al "java/util/ArrayList" "elementData" "[Ljava/lang/Object;" .null := D290 (Or.inl (hw _ (List.mem_of_getElem? (i := 26) rfl))) (ty := (.array (.object "java/lang/Object"))) (by decide)
      have F_size_al : Fld Z h290 al "java/util/ArrayList" "size" "I" (.int (0 : Int32)) := D290 (Or.inl (hw _ (List.mem_of_getElem? (i := 58) rfl))) (ty := .int) (by decide)
      have ne_dc_al : dc ≠ al := fun q => absurd (Nat.lt_of_lt_of_le V_dc.lt hn0) (Nat.not_lt.mpr (q ▸ g_al))
      have go292 : Go p e below T290 (mkF m 20 #[.val (.int i0), .val (.int i1), .val (.int i2), .val (.int (0 : Int32)), .val (.int kk), .unset, .unset, .unset, .unset] [(.ref al), (.ref al)]) S0 := by
        intro t kt
        refine go291 t ?_
        refine XS.dup X290.here hx rfl (hb hby at_19) rfl rfl ?_
        exact kt
      obtain ⟨_, _, ⟨T293, L293, k293, n293⟩, -, X293, ⟨Lc293, hQ293, l293, y293, z293⟩, st293⟩ := X290.specialBack hx (y := (⟨"java/util/ArrayList", "<init>", "()V"⟩ : MethodName)) rfl hown (mvT hZ (hw _ (List.mem_of_getElem? (i := 4) rfl))) (mvT hZ (hw _ (List.mem_of_getElem? (i := 5) rfl))) (mvT hZ (hw _ (List.mem_of_getElem? (i := 6) rfl))) (by decide) (backOf (W := 1) (rm_alinit l Z a0 hw [] al dc h290 n0 Z0 (own_et O0 (own_ext K0)) hn0 S_DC E_al F_modCount_al F_elementData_al F_size_al g_al) hZ (hw _ (List.mem_of_getElem? (i := 6) rfl)) (hw _ (List.mem_of_getElem? (i := 3) rfl)) (by decide) (by decide)) (g := (mkF m 20 #[.val (.int i0), .val (.int i1), .val (.int i2), .val (.int (0 : Int32)), .val (.int kk), .unset, .unset, .unset, .unset] [(.ref al), (.ref al)])) rfl (by rw [hml]; rfl) (Steps.refl _) (a := al) (argsL := []) (rest := [(.ref al)]) (lenOf pdj___V rfl) rfl (by show 2 * 0 + _ ≤ _; exact Nat.le_of_eq rfl) (hb hby at_20) (fun _ _ => ⟨rfl, e290, (by decide : 1 + 0 ≤ _), (by decide : 3 + 0 ≤ _)⟩)
      dsimp only [Pt.U, Pt.locs, Pt.cells, Pt.slots] at X293 l293 y293 z293 st293 hQ293
      subst l293 y293 z293
      obtain ⟨rfl, N293q, K293, E293, M293, D293, Sz293⟩ := hQ293
      have K0 := K0.trans K293 (allS (Or.inr sz_al) all0)
      have Z0 := Nat.le_trans Z0 K293.1
      have E_al := E293
      have F_modCount_al := M293
      have F_elementData_al := D293
      have F_size_al := Sz293
      have N293 := Fr.app N0 N293q
      have go294 : Go p e below T293 (mkF m 23 #[.val (.int i0), .val (.int i1), .val (.int i2), .val (.int (0 : Int32)), .val (.int kk), .unset, .unset, .unset, .unset] [(.ref al)]) S0 := fun t kt => go292 t (st293.trans kt)
      have go295 : Go p e below T293 (mkF m 91 #[.val (.int i0), .val (.int i1), .val (.int i2), .val (.int (0 : Int32)), .val (.int kk), .val (.ref al), .unset, .unset, .unset] []) S0 := by
        intro t kt
        refine go294 t ?_
        refine XS.astore X293.here hx rfl (hb hby at_23) rfl rfl (l' := #[.val (.int i0), .val (.int i1), .val (.int i2), .val (.int (0 : Int32)), .val (.int kk), .val (.ref al), .unset, .unset, .unset]) rfl ?_
        refine XS.iloadN X293.here hx rfl (hb hby at_25) rfl ?_
        refine XS.iconst X293.here hx rfl (hb hby at_26) ?_
        refine XS.icmpYes X293.here hx rfl (pc0 := 27) (pc' := 45) rfl (hb hby at_27) rfl (tlt (by decide)).1 (by decide) (by decide) ?_
        refine XS.iloadN X293.here hx rfl (hb hby at_45) rfl ?_
        refine XS.iconst X293.here hx rfl (hb hby at_46) ?_
        show Steps p.tables e below (T293.setTop (mkF m 47 #[.val (.int i0), .val (.int i1), .val (.int i2), .val (.int (0 : Int32)), .val (.int kk), .val (.ref al), .unset, .unset, .unset] [(.int (2 : Int32)), (.int (0 : Int32))])) _
        refine XS.icmpYes X293.here hx rfl (pc0 := 47) (pc' := 68) rfl (hb hby at_47) rfl (tlt (by decide)).1 (by decide) (by decide) ?_
        refine XS.iloadN X293.here hx rfl (hb hby at_68) rfl ?_
        refine XS.iconst X293.here hx rfl (hb hby at_69) ?_
        refine XS.icmpYes X293.here hx rfl (pc0 := 70) (pc' := 91) rfl (hb hby at_70) rfl (tlt (by decide)).1 (by decide) (by decide) ?_
        exact kt
      obtain ⟨T296, h296, X296, e296, E296, A296, D296, -, st296⟩ := newO X293 hx hZ hown (hw _ (List.mem_of_getElem? (i := 27) rfl)) (hw _ (List.mem_of_getElem? (i := 28) rfl)) (hw _ (List.mem_of_getElem? (i := 29) rfl)) rfl (g := (mkF m 91 #[.val (.int i0), .val (.int i1), .val (.int i2), .val (.int (0 : Int32)), .val (.int kk), .val (.ref al), .unset, .unset, .unset] [])) rfl (hb hby at_91) (by decide) (by decide)
      obtain ⟨fn, g296⟩ : ∃ z, z = T293.heap.size := ⟨_, rfl⟩
      rw [← g296] at A296 D296 st296
      have g_fn : n0 ≤ fn := Nat.le_trans Z0 (Nat.le_of_eq g296.symm)
      have sz_fn : h0.size ≤ fn := Nat.le_trans K0.1 (Nat.le_of_eq g296.symm)
      have E_al := E_al.ext E296
      have F_modCount_al := F_modCount_al.ext E296
      have F_elementData_al := F_elementData_al.ext E296
      have F_size_al := F_size_al.ext E296
      have Z0 := Nat.le_trans Z0 E296.1
      have K0 := K0.ext E296
      have go297 : Go p e below T296 (mkF m 94 #[.val (.int i0), .val (.int i1), .val (.int i2), .val (.int (0 : Int32)), .val (.int kk), .val (.ref al), .unset, .unset, .unset] [(.ref fn)]) S0 := fun t kt => go295 t (st296 _ kt)
      have E_fn := A296
      have F_names_fn : Fld Z h296 fn "com/example/tinlet/tinlet/deploy/descriptor/FragmentNames" "names" "Ljava/util/List;" .null := D296 (Or.inr (hw _ (List.mem_of_getElem? (i := 64) rfl))) (ty := (.object "java/util/List")) (by decide)
      have F_othersAt_fn : Fld Z h296 fn "com/example/tinlet/tinlet/deploy/descriptor/FragmentNames" "othersAt" "I" (.int (0 : Int32)) := D296 (Or.inr (hw _ (List.mem_of_getElem? (i := 66) rfl))) (ty := .int) (by decide)
      obtain ⟨g, gz, c12, cN, hgn, hP⟩ := own_pall Z (own_U Z h296) (State.Warmed39.refl Z : Z.Warmed39 (own_U Z h296).vm) hw hm (n := 0) E_al F_elementData_al F_size_al F_modCount_al (V_dc.ext (own_et O0 (own_ext K0))) (E_dc.ext (own_et O0 (own_ext K0))) (by decide) (by decide) (by decide) (fun v hv => by cases hv) (fun i hi => by omega) (S_em.ext (own_et O0 (own_ext K0))) (S_el.ext (own_et O0 (own_ext K0)))
      have go298 : Go p e below T296 (mkF m 99 #[.val (.int i0), .val (.int i1), .val (.int i2), .val (.int (0 : Int32)), .val (.int kk), .val (.ref al), .unset, .unset, .unset] [(.int kk), (.ref al), (.ref fn), (.ref fn)]) S0 := by
        intro t kt
        refine go297 t ?_
        refine XS.dup X296.here hx rfl (hb hby at_94) rfl rfl ?_
        refine XS.aload X296.here hx rfl (hb hby at_95) rfl rfl ?_
        refine XS.iload X296.here hx rfl (hb hby at_97) rfl ?_
        exact kt
      obtain ⟨_, _, ⟨T299, L299, k299, n299⟩, -, X299, ⟨Lc299, hQ299, l299, y299, z299⟩, st299⟩ := X296.specialBack hx (y := (⟨"com/example/tinlet/tinlet/deploy/descriptor/FragmentNames", "<init>", "(Ljava/util/List;I)V"⟩ : MethodName)) rfl hown (mvT hZ (hw _ (List.mem_of_getElem? (i := 30) rfl))) (mvT hZ (hw _ (List.mem_of_getElem? (i := 31) rfl))) (mvT hZ (hw _ (List.mem_of_getElem? (i := 32) rfl))) (by decide) (backOf (W := 1) (rm_fninit l Z a0 hw [] fn al kk g gz c12 cN em el h296 n0 Z0 E_fn F_names_fn F_othersAt_fn g_fn hP) hZ (hw _ (List.mem_of_getElem? (i := 32) rfl)) (hw _ (List.mem_of_getElem? (i := 29) rfl)) (by decide) (by decide)) (g := (mkF m 99 #[.val (.int i0), .val (.int i1), .val (.int i2), .val (.int (0 : Int32)), .val (.int kk), .val (.ref al), .unset, .unset, .unset] [(.int kk), (.ref al), (.ref fn), (.ref fn)])) rfl (by rw [hml]; rfl) (Steps.refl _) (a := fn) (argsL := [(.ref al), (.int kk)]) (rest := [(.ref fn)]) (lenOf pdj__Ljava_util_List_I_V rfl) rfl (by show 2 * 0 + _ ≤ _; exact Nat.le_of_eq rfl) (hb hby at_99) (fun _ _ => ⟨rfl, e296, (by decide : 2 + 3 ≤ _), (by decide : 5 + 8 ≤ _)⟩)
      dsimp only [Pt.U, Pt.locs, Pt.cells, Pt.slots] at X299 l299 y299 z299 st299 hQ299
      subst l299 y299 z299
      obtain ⟨rfl, N299q, K299, E299, FO299, r, FN299, hr⟩ := hQ299
      have K0 := K0.trans K299 (allS (Or.inr sz_fn) all0)
      have Z0 := Nat.le_trans Z0 K299.1
      have E_fn := E299
      have F_othersAt_fn := FO299
      have F_names_fn := FN299
      have N299 := Fr.app N293 N299q
      have go300 : Go p e below T299 (mkF m 102 #[.val (.int i0), .val (.int i1), .val (.int i2), .val (.int (0 : Int32)), .val (.int kk), .val (.ref al), .unset, .unset, .unset] [(.ref fn)]) S0 := fun t kt => go298 t (st299.trans kt)
      have go301 : Go p e below T299 (mkF m 106 #[.val (.int i0), .val (.int i1), .val (.int i2), .val (.int (0 : Int32)), .val (.int kk), .val (.ref al), .val (.ref fn), .unset, .unset] [(.ref fn)]) S0 := by
        intro t kt
        refine go300 t ?_
        refine XS.astore X299.here hx rfl (hb hby at_102) rfl rfl (l' := #[.val (.int i0), .val (.int i1), .val (.int i2), .val (.int (0 : Int32)), .val (.int kk), .val (.ref al), .val (.ref fn), .unset, .unset]) rfl ?_
        refine XS.aload X299.here hx rfl (hb hby at_104) rfl rfl ?_
        exact kt
      obtain ⟨cq302, kq302, q302a, q302b, q302c⟩ := isOf hZ rfl E_fn
      obtain ⟨_, _, ⟨T302, L302, k302, n302⟩, -, X302, ⟨Lc302, hQ302, l302, y302, z302⟩, st302⟩ := X299.virtualBack hx (y := (⟨"com/example/tinlet/tinlet/deploy/descriptor/FragmentNames", "hasOthers", "()Z"⟩ : MethodName)) (z := (⟨"com/example/tinlet/tinlet/deploy/descriptor/FragmentNames", "hasOthers", "()Z"⟩ : MethodName)) hown (mvT hZ (hw _ (List.mem_of_getElem? (i := 67) rfl))) (mvT hZ (hw _ (List.mem_of_getElem? (i := 68) rfl))) (notFace_of_selects (args := #[]) (mvT hZ (hw _ (List.mem_of_getElem? (i := 70) rfl)))) (mvT hZ (hw _ (List.mem_of_getElem? (i := 70) rfl))) (mvT hZ (hw _ (List.mem_of_getElem? (i := 69) rfl))) (by decide) (backOf (W := 0) (rm_hasOthersN l Z a0 hw [] fn kk T299.heap n0 Z0 hk0 F_othersAt_fn) hZ (hw _ (List.mem_of_getElem? (i := 71) rfl)) (hw _ (List.mem_of_getElem? (i := 29) rfl)) (by decide) (by decide)) q302a q302c (g := (mkF m 106 #[.val (.int i0), .val (.int i1), .val (.int i2), .val (.int (0 : Int32)), .val (.int kk), .val (.ref al), .val (.ref fn), .unset, .unset] [(.ref fn)])) rfl (by rw [hml]; rfl) (Steps.refl _) (argsL := []) (rest := []) (lenOf pdj___Z rfl) rfl (by show 2 * 0 + _ ≤ _; exact Nat.le_of_eq rfl) (hb hby at_106) (fun _ _ => ⟨rfl, rfl, (by decide : 5 + 0 ≤ _), (by decide : 13 + 0 ≤ _)⟩)
      dsimp only [Pt.U, Pt.locs, Pt.cells, Pt.slots] at X302 l302 y302 z302 st302 hQ302
      subst l302 y302 z302
      obtain ⟨rfl, N302q, g302⟩ := hQ302
      have K0 := own_ks g302 K0
      rw [← g302] at E_fn F_othersAt_fn F_names_fn Z0
      have N302 := Fr.app N299 N302q
      have go303 : Go p e below T302 (mkF m 109 #[.val (.int i0), .val (.int i1), .val (.int i2), .val (.int (0 : Int32)), .val (.int kk), .val (.ref al), .val (.ref fn), .unset, .unset] [(.int (0 : Int32))]) S0 := fun t kt => go301 t (st302.trans kt)
      rw [hr hgn] at F_names_fn
      have go304 : Go p e below T302 (mkF m 139 #[.val (.int i0), .val (.int i1), .val (.int i2), .val (.int (0 : Int32)), .val (.int kk), .val (.ref al), .val (.ref fn), .val (.int (0 : Int32)), .val (.int (0 : Int32))] [(.ref fn)]) S0 := by
        intro t kt
        refine go303 t ?_
        refine XS.istore X302.here hx rfl (hb hby at_109) rfl (l' := #[.val (.int i0), .val (.int i1), .val (.int i2), .val (.int (0 : Int32)), .val (.int kk), .val (.ref al), .val (.ref fn), .val (.int (0 : Int32)), .unset]) rfl ?_
        refine XS.iload X302.here hx rfl (hb hby at_111) rfl ?_
        refine XS.iconst X302.here hx rfl (hb hby at_113) ?_
        refine XS.icmpYes X302.here hx rfl (pc0 := 114) (pc' := 121) rfl (hb hby at_114) rfl (teq hkm).1 (by decide) (by decide) ?_
        refine XS.iconst X302.here hx rfl (hb hby at_121) ?_
        refine XS.istore X302.here hx rfl (hb hby at_122) rfl (l' := #[.val (.int i0), .val (.int i1), .val (.int i2), .val (.int (0 : Int32)), .val (.int kk), .val (.ref al), .val (.ref fn), .val (.int (0 : Int32)), .val (.int (0 : Int32))]) rfl ?_
        show Steps p.tables e below (T302.setTop (mkF m 124 #[.val (.int i0), .val (.int i1), .val (.int i2), .val (.int (0 : Int32)), .val (.int kk), .val (.ref al), .val (.ref fn), .val (.int (0 : Int32)), .val (.int (0 : Int32))] [])) _
        refine XS.iload X302.here hx rfl (hb hby at_124) rfl ?_
        refine XS.iload X302.here hx rfl (hb hby at_126) rfl ?_
        refine XS.icmpYes X302.here hx rfl (pc0 := 128) (pc' := 133) rfl (hb hby at_128) rfl (teq rfl).1 (by decide) (by decide) ?_
        refine XS.iloadN X302.here hx rfl (hb hby at_133) rfl ?_
        refine XS.ifNo X302.here hx rfl (hb hby at_134) rfl ((if0 _ _).trans (teq rfl).2) ?_
        refine XS.aload X302.here hx rfl (hb hby at_137) rfl rfl ?_
        exact kt
      obtain ⟨cq305, kq305, q305a, q305b, q305c⟩ := isOf hZ rfl E_fn
      obtain ⟨_, _, ⟨T305, L305, k305, n305⟩, -, X305, ⟨Lc305, hQ305, l305, y305, z305⟩, st305⟩ := X302.virtualBack hx (y := (⟨"com/example/tinlet/tinlet/deploy/descriptor/FragmentNames", "isEmpty", "()Z"⟩ : MethodName)) (z := (⟨"com/example/tinlet/tinlet/deploy/descriptor/FragmentNames", "isEmpty", "()Z"⟩ : MethodName)) hown (mvT hZ (hw _ (List.mem_of_getElem? (i := 72) rfl))) (mvT hZ (hw _ (List.mem_of_getElem? (i := 73) rfl))) (notFace_of_selects (args := #[]) (mvT hZ (hw _ (List.mem_of_getElem? (i := 75) rfl)))) (mvT hZ (hw _ (List.mem_of_getElem? (i := 75) rfl))) (mvT hZ (hw _ (List.mem_of_getElem? (i := 74) rfl))) (by decide) (backOf (W := 0) (rm_fnIsEmptyN l Z a0 hw [] fn kk el ee ke T302.heap n0 Z0 hk0 F_othersAt_fn F_names_fn (E_el.ext (own_et O0 (own_ext K0))) (F_elements_el.ext (own_et O0 (own_ext K0))) (V_ee.ext (own_et O0 (own_ext K0)))) hZ (hw _ (List.mem_of_getElem? (i := 76) rfl)) (hw _ (List.mem_of_getElem? (i := 29) rfl)) (by decide) (by decide)) q305a q305c (g := (mkF m 139 #[.val (.int i0), .val (.int i1), .val (.int i2), .val (.int (0 : Int32)), .val (.int kk), .val (.ref al), .val (.ref fn), .val (.int (0 : Int32)), .val (.int (0 : Int32))] [(.ref fn)])) rfl (by rw [hml]; rfl) (Steps.refl _) (argsL := []) (rest := []) (lenOf pdj___Z rfl) rfl (by show 2 * 0 + _ ≤ _; exact Nat.le_of_eq rfl) (hb hby at_139) (fun _ _ => ⟨rfl, rfl, (by decide : 5 + 0 ≤ _), (by decide : 13 + 0 ≤ _)⟩)
      dsimp only [Pt.U, Pt.locs, Pt.cells, Pt.slots] at X305 l305 y305 z305 st305 hQ305
      subst l305 y305 z305
      obtain ⟨rfl, N305q, g305⟩ := hQ305
      have K0 := own_ks g305 K0
      rw [← g305] at E_fn F_othersAt_fn F_names_fn Z0
      have N305 := Fr.app N302 N305q
      have go306 : Go p e below T305 (mkF m 142 #[.val (.int i0), .val (.int i1), .val (.int i2), .val (.int (0 : Int32)), .val (.int kk), .val (.ref al), .val (.ref fn), .val (.int (0 : Int32)), .val (.int (0 : Int32))] [(.int (1 : Int32))]) S0 := fun t kt => go304 t (st305.trans kt)
      have go307 : Go p e below T305 (mkF m 160 #[.val (.int i0), .val (.int i1), .val (.int i2), .val (.int (0 : Int32)), .val (.int kk), .val (.ref al), .val (.ref fn), .val (.int (0 : Int32)), .val (.int (0 : Int32))] [(.int (1 : Int32))]) S0 := by
        intro t kt
        refine go306 t ?_
        refine XS.iload X305.here hx rfl (hb hby at_142) rfl ?_
        refine XS.ifNo X305.here hx rfl (hb hby at_144) rfl ((if0 _ _).trans (teq rfl).2) ?_
        refine XS.iconst X305.here hx rfl (hb hby at_147) ?_
        refine XS.goto X305.here hx rfl (pc0 := 148) (pc' := 152) rfl (hb hby at_148) (by decide) (by decide) ?_
        refine XS.icmpNo X305.here hx rfl (hb hby at_152) rfl (teq rfl).2 ?_
        refine XS.iconst X305.here hx rfl (hb hby at_155) ?_
        show Steps p.tables e below (T305.setTop (mkF m 156 #[.val (.int i0), .val (.int i1), .val (.int i2), .val (.int (0 : Int32)), .val (.int kk), .val (.ref al), .val (.ref fn), .val (.int (0 : Int32)), .val (.int (0 : Int32))] [(.int (1 : Int32))])) _
        refine XS.goto X305.here hx rfl (pc0 := 156) (pc' := 160) rfl (hb hby at_156) (by decide) (by decide) ?_
        exact kt
      obtain ⟨fs, hr, hrun, hended, hW, hsame⟩ := X305.leave (v := some (.int (1 : Int32))) (fun h => by rw [Bd.returns] at h; cases h)
      refine ⟨_, _, go307 _ ?_, hrun, hended, _, _, rfl, ?_, ⟨_, rfl⟩, hW, hsame.mono (by decide) (by decide)⟩
      · show Steps p.tables e below (T305.setTop (mkF m 160 #[.val (.int i0), .val (.int i1), .val (.int i2), .val (.int (0 : Int32)), .val (.int kk), .val (.ref al), .val (.ref fn), .val (.int (0 : Int32)), .val (.int (0 : Int32))] [(.int (1 : Int32))])) _
        exact retN X305 hx (t := .boolean) Bd.returns (by simp) (hb hby at_160) hr
      · show Q_rm0 Z i0 i1 i2 zc dc kd em el ee ke h0 n0 _ T305.heap _
        exact ⟨rfl, N305⟩
    · have hkm : ¬ kk = (-1 : Int32) := fun q => hk0 (by rw [q]; decide)
      obtain ⟨T308, h308, X308, e308, E308, A308, D308, -, st308⟩ := newO X0 hx hZ hown (hw _ (List.mem_of_getElem? (i := 1) rfl)) (hw _ (List.mem_of_getElem? (i := 2) rfl)) (hw _ (List.mem_of_getElem? (i := 3) rfl)) e0 (g := (mkF m 16 #[.val (.int i0), .val (.int i1), .val (.int i2), .val (.int (0 : Int32)), .val (.int kk), .unset, .unset, .unset, .unset] [])) rfl (hb hby at_16) (by decide) (by decide)
      obtain ⟨al, g308⟩ : ∃ z, z = h0.size := ⟨_, rfl⟩
      rw [← g308] at A308 D308 st308
      have g_al : n0 ≤ al := Nat.le_trans Z0 (Nat.le_of_eq g308.symm)
      have sz_al : h0.size ≤ al := Nat.le_trans K0.1 (Nat.le_of_eq g308.symm)
      have Z0 := Nat.le_trans Z0 E308.1
      have K0 := K0.ext E308
      have go309 : Go p e below T308 (mkF m 19 #[.val (.int i0), .val (.int i1), .val (.int i2), .val (.int (0 : Int32)), .val (.int kk), .unset, .unset, .unset, .unset] [(.ref al)]) S0 := fun t kt => go289 t (st308 _ kt)
      have E_al := A308
      have F_modCount_al : Fld Z h308 al "java/util/AbstractList" "modCount" "I" (.int (0 : Int32)) := D308 (Or.inl (hw _ (List.mem_of_getElem? (i := 23) rfl))) (ty := .int) (by decide)
      have F_elementData_al : Fld Z h308 al "java/util/ArrayList" "elementData" "[Ljava/lang/Object;" .null := D308 (Or.inl (hw _ (List.mem_of_getElem? (i := 26) rfl))) (ty := (.array (.object "java/lang/Object"))) (by decide)
      have F_size_al : Fld Z h308 al "java/util/ArrayList" "size" "I" (.int (0 : Int32)) := D308 (Or.inl (hw _ (List.mem_of_getElem? (i := 58) rfl))) (ty := .int) (by decide)
      have ne_dc_al : dc ≠ al := fun q => absurd (Nat.lt_of_lt_of_le V_dc.lt hn0) (Nat.not_lt.mpr (q ▸ g_al))
      have go310 : Go p e below T308 (mkF m 20 #[.val (.int i0), .val (.int i1), .val (.int i2), .val (.int (0 : Int32)), .val (.int kk), .unset, .unset, .unset, .unset] [(.ref al), (.ref al)]) S0 := by
        intro t kt
        refine go309 t ?_
        refine XS.dup X308.here hx rfl (hb hby at_19) rfl rfl ?_
        exact kt
      obtain ⟨_, _, ⟨T311, L311, k311, n311⟩, -, X311, ⟨Lc311, hQ311, l311, y311, z311⟩, st311⟩ := X308.specialBack hx (y := (⟨"java/util/ArrayList", "<init>", "()V"⟩ : MethodName)) rfl hown (mvT hZ (hw _ (List.mem_of_getElem? (i := 4) rfl))) (mvT hZ (hw _ (List.mem_of_getElem? (i := 5) rfl))) (mvT hZ (hw _ (List.mem_of_getElem? (i := 6) rfl))) (by decide) (backOf (W := 1) (rm_alinit l Z a0 hw [] al dc h308 n0 Z0 (own_et O0 (own_ext K0)) hn0 S_DC E_al F_modCount_al F_elementData_al F_size_al g_al) hZ (hw _ (List.mem_of_getElem? (i := 6) rfl)) (hw _ (List.mem_of_getElem? (i := 3) rfl)) (by decide) (by decide)) (g := (mkF m 20 #[.val (.int i0), .val (.int i1), .val (.int i2), .val (.int (0 : Int32)), .val (.int kk), .unset, .unset, .unset, .unset] [(.ref al), (.ref al)])) rfl (by rw [hml]; rfl) (Steps.refl _) (a := al) (argsL := []) (rest := [(.ref al)]) (lenOf pdj___V rfl) rfl (by show 2 * 0 + _ ≤ _; exact Nat.le_of_eq rfl) (hb hby at_20) (fun _ _ => ⟨rfl, e308, (by decide : 1 + 0 ≤ _), (by decide : 3 + 0 ≤ _)⟩)
      dsimp only [Pt.U, Pt.locs, Pt.cells, Pt.slots] at X311 l311 y311 z311 st311 hQ311
      subst l311 y311 z311
      obtain ⟨rfl, N311q, K311, E311, M311, D311, Sz311⟩ := hQ311
      have K0 := K0.trans K311 (allS (Or.inr sz_al) all0)
      have Z0 := Nat.le_trans Z0 K311.1
      have E_al := E311
      have F_modCount_al := M311
      have F_elementData_al := D311
      have F_size_al := Sz311
      have N311 := Fr.app N0 N311q
      have go312 : Go p e below T311 (mkF m 23 #[.val (.int i0), .val (.int i1), .val (.int i2), .val (.int (0 : Int32)), .val (.int kk), .unset, .unset, .unset, .unset] [(.ref al)]) S0 := fun t kt => go310 t (st311.trans kt)
      have go313 : Go p e below T311 (mkF m 91 #[.val (.int i0), .val (.int i1), .val (.int i2), .val (.int (0 : Int32)), .val (.int kk), .val (.ref al), .unset, .unset, .unset] []) S0 := by
        intro t kt
        refine go312 t ?_
        refine XS.astore X311.here hx rfl (hb hby at_23) rfl rfl (l' := #[.val (.int i0), .val (.int i1), .val (.int i2), .val (.int (0 : Int32)), .val (.int kk), .val (.ref al), .unset, .unset, .unset]) rfl ?_
        refine XS.iloadN X311.here hx rfl (hb hby at_25) rfl ?_
        refine XS.iconst X311.here hx rfl (hb hby at_26) ?_
        refine XS.icmpYes X311.here hx rfl (pc0 := 27) (pc' := 45) rfl (hb hby at_27) rfl (tlt (by decide)).1 (by decide) (by decide) ?_
        refine XS.iloadN X311.here hx rfl (hb hby at_45) rfl ?_
        refine XS.iconst X311.here hx rfl (hb hby at_46) ?_
        show Steps p.tables e below (T311.setTop (mkF m 47 #[.val (.int i0), .val (.int i1), .val (.int i2), .val (.int (0 : Int32)), .val (.int kk), .val (.ref al), .unset, .unset, .unset] [(.int (2 : Int32)), (.int (0 : Int32))])) _
        refine XS.icmpYes X311.here hx rfl (pc0 := 47) (pc' := 68) rfl (hb hby at_47) rfl (tlt (by decide)).1 (by decide) (by decide) ?_
        refine XS.iloadN X311.here hx rfl (hb hby at_68) rfl ?_
        refine XS.iconst X311.here hx rfl (hb hby at_69) ?_
        refine XS.icmpYes X311.here hx rfl (pc0 := 70) (pc' := 91) rfl (hb hby at_70) rfl (tlt (by decide)).1 (by decide) (by decide) ?_
        exact kt
      obtain ⟨T314, h314, X314, e314, E314, A314, D314, -, st314⟩ := newO X311 hx hZ hown (hw _ (List.mem_of_getElem? (i := 27) rfl)) (hw _ (List.mem_of_getElem? (i := 28) rfl)) (hw _ (List.mem_of_getElem? (i := 29) rfl)) rfl (g := (mkF m 91 #[.val (.int i0), .val (.int i1), .val (.int i2), .val (.int (0 : Int32)), .val (.int kk), .val (.ref al), .unset, .unset, .unset] [])) rfl (hb hby at_91) (by decide) (by decide)
      obtain ⟨fn, g314⟩ : ∃ z, z = T311.heap.size := ⟨_, rfl⟩
      rw [← g314] at A314 D314 st314
      have g_fn : n0 ≤ fn := Nat.le_trans Z0 (Nat.le_of_eq g314.symm)
      have sz_fn : h0.size ≤ fn := Nat.le_trans K0.1 (Nat.le_of_eq g314.symm)
      have E_al := E_al.ext E314
      have F_modCount_al := F_modCount_al.ext E314
      have F_elementData_al := F_elementData_al.ext E314
      have F_size_al := F_size_al.ext E314
      have Z0 := Nat.le_trans Z0 E314.1
      have K0 := K0.ext E314
      have go315 : Go p e below T314 (mkF m 94 #[.val (.int i0), .val (.int i1), .val (.int i2), .val (.int (0 : Int32)), .val (.int kk), .val (.ref al), .unset, .unset, .unset] [(.ref fn)]) S0 := fun t kt => go313 t (st314 _ kt)
      have E_fn := A314
      have F_names_fn : Fld Z h314 fn "com/example/tinlet/tinlet/deploy/descriptor/FragmentNames" "names" "Ljava/util/List;" .null := D314 (Or.inr (hw _ (List.mem_of_getElem? (i := 64) rfl))) (ty := (.object "java/util/List")) (by decide)
      have F_othersAt_fn : Fld Z h314 fn "com/example/tinlet/tinlet/deploy/descriptor/FragmentNames" "othersAt" "I" (.int (0 : Int32)) := D314 (Or.inr (hw _ (List.mem_of_getElem? (i := 66) rfl))) (ty := .int) (by decide)
      obtain ⟨g, gz, c12, cN, hgn, hP⟩ := own_pall Z (own_U Z h314) (State.Warmed39.refl Z : Z.Warmed39 (own_U Z h314).vm) hw hm (n := 0) E_al F_elementData_al F_size_al F_modCount_al (V_dc.ext (own_et O0 (own_ext K0))) (E_dc.ext (own_et O0 (own_ext K0))) (by decide) (by decide) (by decide) (fun v hv => by cases hv) (fun i hi => by omega) (S_em.ext (own_et O0 (own_ext K0))) (S_el.ext (own_et O0 (own_ext K0)))
      have go316 : Go p e below T314 (mkF m 99 #[.val (.int i0), .val (.int i1), .val (.int i2), .val (.int (0 : Int32)), .val (.int kk), .val (.ref al), .unset, .unset, .unset] [(.int kk), (.ref al), (.ref fn), (.ref fn)]) S0 := by
        intro t kt
        refine go315 t ?_
        refine XS.dup X314.here hx rfl (hb hby at_94) rfl rfl ?_
        refine XS.aload X314.here hx rfl (hb hby at_95) rfl rfl ?_
        refine XS.iload X314.here hx rfl (hb hby at_97) rfl ?_
        exact kt
      obtain ⟨_, _, ⟨T317, L317, k317, n317⟩, -, X317, ⟨Lc317, hQ317, l317, y317, z317⟩, st317⟩ := X314.specialBack hx (y := (⟨"com/example/tinlet/tinlet/deploy/descriptor/FragmentNames", "<init>", "(Ljava/util/List;I)V"⟩ : MethodName)) rfl hown (mvT hZ (hw _ (List.mem_of_getElem? (i := 30) rfl))) (mvT hZ (hw _ (List.mem_of_getElem? (i := 31) rfl))) (mvT hZ (hw _ (List.mem_of_getElem? (i := 32) rfl))) (by decide) (backOf (W := 1) (rm_fninit l Z a0 hw [] fn al kk g gz c12 cN em el h314 n0 Z0 E_fn F_names_fn F_othersAt_fn g_fn hP) hZ (hw _ (List.mem_of_getElem? (i := 32) rfl)) (hw _ (List.mem_of_getElem? (i := 29) rfl)) (by decide) (by decide)) (g := (mkF m 99 #[.val (.int i0), .val (.int i1), .val (.int i2), .val (.int (0 : Int32)), .val (.int kk), .val (.ref al), .unset, .unset, .unset] [(.int kk), (.ref al), (.ref fn), (.ref fn)])) rfl (by rw [hml]; rfl) (Steps.refl _) (a := fn) (argsL := [(.ref al), (.int kk)]) (rest := [(.ref fn)]) (lenOf pdj__Ljava_util_List_I_V rfl) rfl (by show 2 * 0 + _ ≤ _; exact Nat.le_of_eq rfl) (hb hby at_99) (fun _ _ => ⟨rfl, e314, (by decide : 2 + 3 ≤ _), (by decide : 5 + 8 ≤ _)⟩)
      dsimp only [Pt.U, Pt.locs, Pt.cells, Pt.slots] at X317 l317 y317 z317 st317 hQ317
      subst l317 y317 z317
      obtain ⟨rfl, N317q, K317, E317, FO317, r, FN317, hr⟩ := hQ317
      have K0 := K0.trans K317 (allS (Or.inr sz_fn) all0)
      have Z0 := Nat.le_trans Z0 K317.1
      have E_fn := E317
      have F_othersAt_fn := FO317
      have F_names_fn := FN317
      have N317 := Fr.app N311 N317q
      have go318 : Go p e below T317 (mkF m 102 #[.val (.int i0), .val (.int i1), .val (.int i2), .val (.int (0 : Int32)), .val (.int kk), .val (.ref al), .unset, .unset, .unset] [(.ref fn)]) S0 := fun t kt => go316 t (st317.trans kt)
      have go319 : Go p e below T317 (mkF m 106 #[.val (.int i0), .val (.int i1), .val (.int i2), .val (.int (0 : Int32)), .val (.int kk), .val (.ref al), .val (.ref fn), .unset, .unset] [(.ref fn)]) S0 := by
        intro t kt
        refine go318 t ?_
        refine XS.astore X317.here hx rfl (hb hby at_102) rfl rfl (l' := #[.val (.int i0), .val (.int i1), .val (.int i2), .val (.int (0 : Int32)), .val (.int kk), .val (.ref al), .val (.ref fn), .unset, .unset]) rfl ?_
        refine XS.aload X317.here hx rfl (hb hby at_104) rfl rfl ?_
        exact kt
      obtain ⟨cq320, kq320, q320a, q320b, q320c⟩ := isOf hZ rfl E_fn
      obtain ⟨_, _, ⟨T320, L320, k320, n320⟩, -, X320, ⟨Lc320, hQ320, l320, y320, z320⟩, st320⟩ := X317.virtualBack hx (y := (⟨"com/example/tinlet/tinlet/deploy/descriptor/FragmentNames", "hasOthers", "()Z"⟩ : MethodName)) (z := (⟨"com/example/tinlet/tinlet/deploy/descriptor/FragmentNames", "hasOthers", "()Z"⟩ : MethodName)) hown (mvT hZ (hw _ (List.mem_of_getElem? (i := 67) rfl))) (mvT hZ (hw _ (List.mem_of_getElem? (i := 68) rfl))) (notFace_of_selects (args := #[]) (mvT hZ (hw _ (List.mem_of_getElem? (i := 70) rfl)))) (mvT hZ (hw _ (List.mem_of_getElem? (i := 70) rfl))) (mvT hZ (hw _ (List.mem_of_getElem? (i := 69) rfl))) (by decide) (backOf (W := 0) (rm_hasOthersY l Z a0 hw [] fn kk T317.heap n0 Z0 hk0 F_othersAt_fn) hZ (hw _ (List.mem_of_getElem? (i := 71) rfl)) (hw _ (List.mem_of_getElem? (i := 29) rfl)) (by decide) (by decide)) q320a q320c (g := (mkF m 106 #[.val (.int i0), .val (.int i1), .val (.int i2), .val (.int (0 : Int32)), .val (.int kk), .val (.ref al), .val (.ref fn), .unset, .unset] [(.ref fn)])) rfl (by rw [hml]; rfl) (Steps.refl _) (argsL := []) (rest := []) (lenOf pdj___Z rfl) rfl (by show 2 * 0 + _ ≤ _; exact Nat.le_of_eq rfl) (hb hby at_106) (fun _ _ => ⟨rfl, rfl, (by decide : 5 + 0 ≤ _), (by decide : 13 + 0 ≤ _)⟩)
      dsimp only [Pt.U, Pt.locs, Pt.cells, Pt.slots] at X320 l320 y320 z320 st320 hQ320
      subst l320 y320 z320
      obtain ⟨rfl, N320q, g320⟩ := hQ320
      have K0 := own_ks g320 K0
      rw [← g320] at E_fn F_othersAt_fn F_names_fn Z0
      have N320 := Fr.app N317 N320q
      have go321 : Go p e below T320 (mkF m 109 #[.val (.int i0), .val (.int i1), .val (.int i2), .val (.int (0 : Int32)), .val (.int kk), .val (.ref al), .val (.ref fn), .unset, .unset] [(.int (1 : Int32))]) S0 := fun t kt => go319 t (st320.trans kt)
      rw [hr hgn] at F_names_fn
      have go322 : Go p e below T320 (mkF m 139 #[.val (.int i0), .val (.int i1), .val (.int i2), .val (.int (0 : Int32)), .val (.int kk), .val (.ref al), .val (.ref fn), .val (.int (1 : Int32)), .val (.int (1 : Int32))] [(.ref fn)]) S0 := by
        intro t kt
        refine go321 t ?_
        refine XS.istore X320.here hx rfl (hb hby at_109) rfl (l' := #[.val (.int i0), .val (.int i1), .val (.int i2), .val (.int (0 : Int32)), .val (.int kk), .val (.ref al), .val (.ref fn), .val (.int (1 : Int32)), .unset]) rfl ?_
        refine XS.iload X320.here hx rfl (hb hby at_111) rfl ?_
        refine XS.iconst X320.here hx rfl (hb hby at_113) ?_
        refine XS.icmpNo X320.here hx rfl (hb hby at_114) rfl (feq hkm).1 ?_
        refine XS.iconst X320.here hx rfl (hb hby at_117) ?_
        refine XS.goto X320.here hx rfl (pc0 := 118) (pc' := 122) rfl (hb hby at_118) (by decide) (by decide) ?_
        show Steps p.tables e below (T320.setTop (mkF m 122 #[.val (.int i0), .val (.int i1), .val (.int i2), .val (.int (0 : Int32)), .val (.int kk), .val (.ref al), .val (.ref fn), .val (.int (1 : Int32)), .unset] [(.int (1 : Int32))])) _
        refine XS.istore X320.here hx rfl (hb hby at_122) rfl (l' := #[.val (.int i0), .val (.int i1), .val (.int i2), .val (.int (0 : Int32)), .val (.int kk), .val (.ref al), .val (.ref fn), .val (.int (1 : Int32)), .val (.int (1 : Int32))]) rfl ?_
        refine XS.iload X320.here hx rfl (hb hby at_124) rfl ?_
        refine XS.iload X320.here hx rfl (hb hby at_126) rfl ?_
        refine XS.icmpYes X320.here hx rfl (pc0 := 128) (pc' := 133) rfl (hb hby at_128) rfl (teq rfl).1 (by decide) (by decide) ?_
        refine XS.iloadN X320.here hx rfl (hb hby at_133) rfl ?_
        refine XS.ifNo X320.here hx rfl (hb hby at_134) rfl ((if0 _ _).trans (teq rfl).2) ?_
        show Steps p.tables e below (T320.setTop (mkF m 137 #[.val (.int i0), .val (.int i1), .val (.int i2), .val (.int (0 : Int32)), .val (.int kk), .val (.ref al), .val (.ref fn), .val (.int (1 : Int32)), .val (.int (1 : Int32))] [])) _
        refine XS.aload X320.here hx rfl (hb hby at_137) rfl rfl ?_
        exact kt
      obtain ⟨cq323, kq323, q323a, q323b, q323c⟩ := isOf hZ rfl E_fn
      obtain ⟨_, _, ⟨T323, L323, k323, n323⟩, -, X323, ⟨Lc323, hQ323, l323, y323, z323⟩, st323⟩ := X320.virtualBack hx (y := (⟨"com/example/tinlet/tinlet/deploy/descriptor/FragmentNames", "isEmpty", "()Z"⟩ : MethodName)) (z := (⟨"com/example/tinlet/tinlet/deploy/descriptor/FragmentNames", "isEmpty", "()Z"⟩ : MethodName)) hown (mvT hZ (hw _ (List.mem_of_getElem? (i := 72) rfl))) (mvT hZ (hw _ (List.mem_of_getElem? (i := 73) rfl))) (notFace_of_selects (args := #[]) (mvT hZ (hw _ (List.mem_of_getElem? (i := 75) rfl)))) (mvT hZ (hw _ (List.mem_of_getElem? (i := 75) rfl))) (mvT hZ (hw _ (List.mem_of_getElem? (i := 74) rfl))) (by decide) (backOf (W := 0) (rm_fnIsEmptyY l Z a0 hw [] fn kk el ee ke T320.heap n0 Z0 hk0 F_othersAt_fn F_names_fn (E_el.ext (own_et O0 (own_ext K0))) (F_elements_el.ext (own_et O0 (own_ext K0))) (V_ee.ext (own_et O0 (own_ext K0)))) hZ (hw _ (List.mem_of_getElem? (i := 76) rfl)) (hw _ (List.mem_of_getElem? (i := 29) rfl)) (by decide) (by decide)) q323a q323c (g := (mkF m 139 #[.val (.int i0), .val (.int i1), .val (.int i2), .val (.int (0 : Int32)), .val (.int kk), .val (.ref al), .val (.ref fn), .val (.int (1 : Int32)), .val (.int (1 : Int32))] [(.ref fn)])) rfl (by rw [hml]; rfl) (Steps.refl _) (argsL := []) (rest := []) (lenOf pdj___Z rfl) rfl (by show 2 * 0 + _ ≤ _; exact Nat.le_of_eq rfl) (hb hby at_139) (fun _ _ => ⟨rfl, rfl, (by decide : 5 + 0 ≤ _), (by decide : 13 + 0 ≤ _)⟩)
      dsimp only [Pt.U, Pt.locs, Pt.cells, Pt.slots] at X323 l323 y323 z323 st323 hQ323
      subst l323 y323 z323
      obtain ⟨rfl, N323q, g323⟩ := hQ323
      have K0 := own_ks g323 K0
      rw [← g323] at E_fn F_othersAt_fn F_names_fn Z0
      have N323 := Fr.app N320 N323q
      have go324 : Go p e below T323 (mkF m 142 #[.val (.int i0), .val (.int i1), .val (.int i2), .val (.int (0 : Int32)), .val (.int kk), .val (.ref al), .val (.ref fn), .val (.int (1 : Int32)), .val (.int (1 : Int32))] [(.int (0 : Int32))]) S0 := fun t kt => go322 t (st323.trans kt)
      have go325 : Go p e below T323 (mkF m 160 #[.val (.int i0), .val (.int i1), .val (.int i2), .val (.int (0 : Int32)), .val (.int kk), .val (.ref al), .val (.ref fn), .val (.int (1 : Int32)), .val (.int (1 : Int32))] [(.int (1 : Int32))]) S0 := by
        intro t kt
        refine go324 t ?_
        refine XS.iload X323.here hx rfl (hb hby at_142) rfl ?_
        refine XS.ifYes X323.here hx rfl (pc0 := 144) (pc' := 151) rfl (hb hby at_144) rfl ((if0 _ _).trans (feq (by decide)).2) (by decide) (by decide) ?_
        refine XS.iconst X323.here hx rfl (hb hby at_151) ?_
        refine XS.icmpNo X323.here hx rfl (hb hby at_152) rfl (teq rfl).2 ?_
        refine XS.iconst X323.here hx rfl (hb hby at_155) ?_
        refine XS.goto X323.here hx rfl (pc0 := 156) (pc' := 160) rfl (hb hby at_156) (by decide) (by decide) ?_
        exact kt
      obtain ⟨fs, hr, hrun, hended, hW, hsame⟩ := X323.leave (v := some (.int (1 : Int32))) (fun h => by rw [Bd.returns] at h; cases h)
      refine ⟨_, _, go325 _ ?_, hrun, hended, _, _, rfl, ?_, ⟨_, rfl⟩, hW, hsame.mono (by decide) (by decide)⟩
      · show Steps p.tables e below (T323.setTop (mkF m 160 #[.val (.int i0), .val (.int i1), .val (.int i2), .val (.int (0 : Int32)), .val (.int kk), .val (.ref al), .val (.ref fn), .val (.int (1 : Int32)), .val (.int (1 : Int32))] [(.int (1 : Int32))])) _
        exact retN X323 hx (t := .boolean) Bd.returns (by simp) (hb hby at_160) hr
      · show Q_rm0 Z i0 i1 i2 zc dc kd em el ee ke h0 n0 _ T323.heap _
        exact ⟨rfl, N323⟩
  · have go326 : Go p e below s₁ (mkF m 4 #[.val (.int i0), .val (.int i1), .val (.int i2), .val (.int (1 : Int32)), .unset, .unset, .unset, .unset, .unset] []) S0 := by have q := go286; rw [hn] at q; exact q
    have go327 : Go p e below s₁ (mkF m 16 #[.val (.int i0), .val (.int i1), .val (.int i2), .val (.int (1 : Int32)), .val (.int (((i1 &&& (2147483647 : Int32)) - ((i1 &&& (2147483647 : Int32)) / (3 : Int32)) * (3 : Int32)) - (1 : Int32))), .unset, .unset, .unset, .unset] []) S0 := by
      intro t kt
      refine go326 t ?_
      refine XS.iloadN X0.here hx rfl (hb hby at_4) rfl ?_
      refine X0.ldcInt hx hown (mvT hZ (hw _ (List.mem_of_getElem? (i := 0) rfl))) (g := (mkF m 5 #[.val (.int i0), .val (.int i1), .val (.int i2), .val (.int (1 : Int32)), .unset, .unset, .unset, .unset, .unset] [(.int i1)])) rfl (hb hby at_5) _ ?_
      refine XS.iand X0.here hx rfl (hb hby at_7) rfl ?_
      refine XS.iloadN X0.here hx rfl (hb hby at_8) rfl ?_
      refine XS.iconst X0.here hx rfl (hb hby at_9) ?_
      refine XS.iadd X0.here hx rfl (hb hby at_10) rfl ?_
      show Steps p.tables e below (s₁.setTop (mkF m 11 #[.val (.int i0), .val (.int i1), .val (.int i2), .val (.int (1 : Int32)), .unset, .unset, .unset, .unset, .unset] [(.int (3 : Int32)), (.int (i1 &&& (2147483647 : Int32)))])) _
      refine XS.irem X0.here hx rfl (hb hby at_11) rfl (by decide) ?_
      refine XS.iconst X0.here hx rfl (hb hby at_12) ?_
      refine XS.isub X0.here hx rfl (hb hby at_13) rfl ?_
      refine XS.istore X0.here hx rfl (hb hby at_14) rfl (l' := #[.val (.int i0), .val (.int i1), .val (.int i2), .val (.int (1 : Int32)), .val (.int (((i1 &&& (2147483647 : Int32)) - ((i1 &&& (2147483647 : Int32)) / (3 : Int32)) * (3 : Int32)) - (1 : Int32))), .unset, .unset, .unset, .unset]) rfl ?_
      exact kt
    obtain ⟨kk, hkk⟩ : ∃ z : Int32, z = (((i1 &&& (2147483647 : Int32)) - ((i1 &&& (2147483647 : Int32)) / (3 : Int32)) * (3 : Int32)) - (1 : Int32)) := ⟨_, rfl⟩
    have go328 : Go p e below s₁ (mkF m 16 #[.val (.int i0), .val (.int i1), .val (.int i2), .val (.int (1 : Int32)), .val (.int kk), .unset, .unset, .unset, .unset] []) S0 := by rw [hkk]; exact go327
    have hkl := own_k i1 (3 : Int32) kk (by decide) hkk
    by_cases hk0 : kk < (0 : Int32)
    · have hkm := hkl hk0
      obtain ⟨T329, h329, X329, e329, E329, A329, D329, -, st329⟩ := newO X0 hx hZ hown (hw _ (List.mem_of_getElem? (i := 1) rfl)) (hw _ (List.mem_of_getElem? (i := 2) rfl)) (hw _ (List.mem_of_getElem? (i := 3) rfl)) e0 (g := (mkF m 16 #[.val (.int i0), .val (.int i1), .val (.int i2), .val (.int (1 : Int32)), .val (.int kk), .unset, .unset, .unset, .unset] [])) rfl (hb hby at_16) (by decide) (by decide)
      obtain ⟨al, g329⟩ : ∃ z, z = h0.size := ⟨_, rfl⟩
      rw [← g329] at A329 D329 st329
      have g_al : n0 ≤ al := Nat.le_trans Z0 (Nat.le_of_eq g329.symm)
      have sz_al : h0.size ≤ al := Nat.le_trans K0.1 (Nat.le_of_eq g329.symm)
      have Z0 := Nat.le_trans Z0 E329.1
      have K0 := K0.ext E329
      have go330 : Go p e below T329 (mkF m 19 #[.val (.int i0), .val (.int i1), .val (.int i2), .val (.int (1 : Int32)), .val (.int kk), .unset, .unset, .unset, .unset] [(.ref al)]) S0 := fun t kt => go328 t (st329 _ kt)
      have E_al := A329
      have F_modCount_al : Fld Z h329 al "java/util/AbstractList" "modCount" "I" (.int (0 : Int32)) := D329 (Or.inl (hw _ (List.mem_of_getElem? (i := 23) rfl))) (ty := .int) (by decide)
      have F_elementData_al : Fld Z h329 al "java/util/ArrayList" "elementData" "[Ljava/lang/Object;" .null := D329 (Or.inl (hw _ (List.mem_of_getElem? (i := 26) rfl))) (ty := (.array (.object "java/lang/Object"))) (by decide)
      have F_size_al : Fld Z h329 al "java/util/ArrayList" "size" "I" (.int (0 : Int32)) := D329 (Or.inl (hw _ (List.mem_of_getElem? (i := 58) rfl))) (ty := .int) (by decide)
      have ne_dc_al : dc ≠ al := fun q => absurd (Nat.lt_of_lt_of_le V_dc.lt hn0) (Nat.not_lt.mpr (q ▸ g_al))
      have go331 : Go p e below T329 (mkF m 20 #[.val (.int i0), .val (.int i1), .val (.int i2), .val (.int (1 : Int32)), .val (.int kk), .unset, .unset, .unset, .unset] [(.ref al), (.ref al)]) S0 := by
        intro t kt
        refine go330 t ?_
        refine XS.dup X329.here hx rfl (hb hby at_19) rfl rfl ?_
        exact kt
      obtain ⟨_, _, ⟨T332, L332, k332, n332⟩, -, X332, ⟨Lc332, hQ332, l332, y332, z332⟩, st332⟩ := X329.specialBack hx (y := (⟨"java/util/ArrayList", "<init>", "()V"⟩ : MethodName)) rfl hown (mvT hZ (hw _ (List.mem_of_getElem? (i := 4) rfl))) (mvT hZ (hw _ (List.mem_of_getElem? (i := 5) rfl))) (mvT hZ (hw _ (List.mem_of_getElem? (i := 6) rfl))) (by decide) (backOf (W := 1) (rm_alinit l Z a0 hw [] al dc h329 n0 Z0 (own_et O0 (own_ext K0)) hn0 S_DC E_al F_modCount_al F_elementData_al F_size_al g_al) hZ (hw _ (List.mem_of_getElem? (i := 6) rfl)) (hw _ (List.mem_of_getElem? (i := 3) rfl)) (by decide) (by decide)) (g := (mkF m 20 #[.val (.int i0), .val (.int i1), .val (.int i2), .val (.int (1 : Int32)), .val (.int kk), .unset, .unset, .unset, .unset] [(.ref al), (.ref al)])) rfl (by rw [hml]; rfl) (Steps.refl _) (a := al) (argsL := []) (rest := [(.ref al)]) (lenOf pdj___V rfl) rfl (by show 2 * 0 + _ ≤ _; exact Nat.le_of_eq rfl) (hb hby at_20) (fun _ _ => ⟨rfl, e329, (by decide : 1 + 0 ≤ _), (by decide : 3 + 0 ≤ _)⟩)
      dsimp only [Pt.U, Pt.locs, Pt.cells, Pt.slots] at X332 l332 y332 z332 st332 hQ332
      subst l332 y332 z332
      obtain ⟨rfl, N332q, K332, E332, M332, D332, Sz332⟩ := hQ332
      have K0 := K0.trans K332 (allS (Or.inr sz_al) all0)
      have Z0 := Nat.le_trans Z0 K332.1
      have E_al := E332
      have F_modCount_al := M332
      have F_elementData_al := D332
      have F_size_al := Sz332
      have N332 := Fr.app N0 N332q
      have go333 : Go p e below T332 (mkF m 23 #[.val (.int i0), .val (.int i1), .val (.int i2), .val (.int (1 : Int32)), .val (.int kk), .unset, .unset, .unset, .unset] [(.ref al)]) S0 := fun t kt => go331 t (st332.trans kt)
      have go334 : Go p e below T332 (mkF m 38 #[.val (.int i0), .val (.int i1), .val (.int i2), .val (.int (1 : Int32)), .val (.int kk), .val (.ref al), .unset, .unset, .unset] [(.int ((i2 &&& (255 : Int32)).toUInt32.toUInt16.toUInt32.toInt32)), (.ref al)]) S0 := by
        intro t kt
        refine go333 t ?_
        refine XS.astore X332.here hx rfl (hb hby at_23) rfl rfl (l' := #[.val (.int i0), .val (.int i1), .val (.int i2), .val (.int (1 : Int32)), .val (.int kk), .val (.ref al), .unset, .unset, .unset]) rfl ?_
        refine XS.iloadN X332.here hx rfl (hb hby at_25) rfl ?_
        refine XS.iconst X332.here hx rfl (hb hby at_26) ?_
        refine XS.icmpNo X332.here hx rfl (hb hby at_27) rfl (flt (by decide)).1 ?_
        refine XS.aload X332.here hx rfl (hb hby at_30) rfl rfl ?_
        refine XS.iloadN X332.here hx rfl (hb hby at_32) rfl ?_
        show Steps p.tables e below (T332.setTop (mkF m 33 #[.val (.int i0), .val (.int i1), .val (.int i2), .val (.int (1 : Int32)), .val (.int kk), .val (.ref al), .unset, .unset, .unset] [(.int i2), (.ref al)])) _
        refine XS.sipush X332.here hx rfl (hb hby at_33) ?_
        refine XS.iand X332.here hx rfl (hb hby at_36) rfl ?_
        refine XS.i2c X332.here hx rfl (hb hby at_37) rfl ?_
        exact kt
      obtain ⟨_, _, ⟨T335, L335, k335, n335⟩, -, X335, ⟨Lc335, hQ335, l335, y335, z335⟩, st335⟩ := Jvm.LawKit.callS X332 hx (y := (⟨"java/lang/String", "valueOf", "(C)Ljava/lang/String;"⟩ : MethodName)) hown (mvT hZ (hw _ (List.mem_of_getElem? (i := 89) rfl))) (mvT hZ (hw _ (List.mem_of_getElem? (i := 90) rfl))) (mvT hZ (hw _ (List.mem_of_getElem? (i := 91) rfl))) (mvT hZ (hw _ (List.mem_of_getElem? (i := 92) rfl))) (by decide) (backOf (W := 1) (rm_valueOf l Z a0 hw [] ((i2 &&& (255 : Int32)).toUInt32.toUInt16.toUInt32.toInt32) zc T332.heap n0 Z0 (own_c _) P5 (S_CS.ext (own_et O0 (own_ext K0)))) hZ (hw _ (List.mem_of_getElem? (i := 92) rfl)) (hw _ (List.mem_of_getElem? (i := 91) rfl)) (by decide) (by decide)) (g := (mkF m 38 #[.val (.int i0), .val (.int i1), .val (.int i2), .val (.int (1 : Int32)), .val (.int kk), .val (.ref al), .unset, .unset, .unset] [(.int ((i2 &&& (255 : Int32)).toUInt32.toUInt16.toUInt32.toInt32)), (.ref al)])) rfl (by rw [hml]; rfl) (argsL := [(.int ((i2 &&& (255 : Int32)).toUInt32.toUInt16.toUInt32.toInt32))]) (rest := [(.ref al)]) (lenOf pdj__C_Ljava_lang_String_ rfl) rfl (by show 2 * 0 + _ ≤ _; exact Nat.le_of_eq rfl) (hb hby at_38) (fun _ _ => ⟨rfl, rfl, (by decide : 1 + 2 ≤ _), (by decide : 3 + 5 ≤ _)⟩)
      dsimp only [Pt.U, Pt.locs, Pt.cells, Pt.slots] at X335 l335 y335 z335 st335 hQ335
      subst l335 y335 z335
      obtain ⟨s0, rfl, N335q, E335, ES335⟩ := hQ335
      have E_al := E_al.ext E335
      have F_modCount_al := F_modCount_al.ext E335
      have F_elementData_al := F_elementData_al.ext E335
      have F_size_al := F_size_al.ext E335
      have Z0 := Nat.le_trans Z0 E335.1
      have K0 := K0.ext E335
      have N335 := Fr.app N332 N335q
      have go336 : Go p e below T335 (mkF m 41 #[.val (.int i0), .val (.int i1), .val (.int i2), .val (.int (1 : Int32)), .val (.int kk), .val (.ref al), .unset, .unset, .unset] [(.ref s0), (.ref al)]) S0 := fun t kt => go334 t (st335 _ kt)
      have E_s0 := ES335
      obtain ⟨cq337, kq337, q337a, q337b, q337c⟩ := isOf hZ rfl E_al
      obtain ⟨_, _, ⟨T337, L337, k337, n337⟩, -, X337, ⟨Lc337, hQ337, l337, y337, z337⟩, st337⟩ := X335.virtualBack hx (y := (⟨"java/util/ArrayList", "add", "(Ljava/lang/Object;)Z"⟩ : MethodName)) (z := (⟨"java/util/ArrayList", "add", "(Ljava/lang/Object;)Z"⟩ : MethodName)) hown (mvT hZ (hw _ (List.mem_of_getElem? (i := 113) rfl))) (mvT hZ (hw _ (List.mem_of_getElem? (i := 114) rfl))) (notFace_of_selects (args := #[]) (mvT hZ (hw _ (List.mem_of_getElem? (i := 116) rfl)))) (mvT hZ (hw _ (List.mem_of_getElem? (i := 116) rfl))) (mvT hZ (hw _ (List.mem_of_getElem? (i := 115) rfl))) (by decide) (backOf (W := 0) (rm_add0 l Z a0 hw [] al s0 dc kd (0 : Int32) T335.heap n0 Z0 (own_et O0 (own_ext K0)) hn0 ne_dc_al S_DC (V_dc.ext (own_et O0 (own_ext K0))) E_al F_modCount_al F_elementData_al F_size_al g_al E_s0) hZ (hw _ (List.mem_of_getElem? (i := 117) rfl)) (hw _ (List.mem_of_getElem? (i := 3) rfl)) (by decide) (by decide)) q337a q337c (g := (mkF m 41 #[.val (.int i0), .val (.int i1), .val (.int i2), .val (.int (1 : Int32)), .val (.int kk), .val (.ref al), .unset, .unset, .unset] [(.ref s0), (.ref al)])) rfl (by rw [hml]; rfl) (Steps.refl _) (argsL := [(.ref s0)]) (rest := []) (lenOf pdj__Ljava_lang_Object__Z rfl) rfl (by show 2 * 0 + _ ≤ _; exact Nat.le_of_eq rfl) (hb hby at_41) (fun _ _ => ⟨rfl, rfl, (by decide : 3 + 1 ≤ _), (by decide : 8 + 10 ≤ _)⟩)
      dsimp only [Pt.U, Pt.locs, Pt.cells, Pt.slots] at X337 l337 y337 z337 st337 hQ337
      subst l337 y337 z337
      obtain ⟨ea, ka, rfl, N337q, K337, sz337, E337, M337, D337, Sz337, g_ea, ne_al_ea, V337, EX337, O_ea⟩ := hQ337
      have sz_ea : h0.size ≤ ea := Nat.le_trans K0.1 sz337
      have K0 := K0.trans K337 (allS (Or.inr sz_al) all0)
      have Z0 := Nat.le_trans Z0 K337.1
      have E_al := E337
      have F_modCount_al := M337
      have F_elementData_al := D337
      have F_size_al := Sz337
      have V_ea := V337
      have E_ea := EX337
      have E_s0 := E_s0.keep K337
      have N337 := Fr.app N335 N337q
      have go338 : Go p e below T337 (mkF m 44 #[.val (.int i0), .val (.int i1), .val (.int i2), .val (.int (1 : Int32)), .val (.int kk), .val (.ref al), .unset, .unset, .unset] [(.int (1 : Int32))]) S0 := fun t kt => go336 t (st337.trans kt)
      have go339 : Go p e below T337 (mkF m 91 #[.val (.int i0), .val (.int i1), .val (.int i2), .val (.int (1 : Int32)), .val (.int kk), .val (.ref al), .unset, .unset, .unset] []) S0 := by
        intro t kt
        refine go338 t ?_
        refine XS.pop X337.here hx rfl (hb hby at_44) rfl rfl ?_
        refine XS.iloadN X337.here hx rfl (hb hby at_45) rfl ?_
        refine XS.iconst X337.here hx rfl (hb hby at_46) ?_
        refine XS.icmpYes X337.here hx rfl (pc0 := 47) (pc' := 68) rfl (hb hby at_47) rfl (tlt (by decide)).1 (by decide) (by decide) ?_
        refine XS.iloadN X337.here hx rfl (hb hby at_68) rfl ?_
        refine XS.iconst X337.here hx rfl (hb hby at_69) ?_
        show Steps p.tables e below (T337.setTop (mkF m 70 #[.val (.int i0), .val (.int i1), .val (.int i2), .val (.int (1 : Int32)), .val (.int kk), .val (.ref al), .unset, .unset, .unset] [(.int (3 : Int32)), (.int (1 : Int32))])) _
        refine XS.icmpYes X337.here hx rfl (pc0 := 70) (pc' := 91) rfl (hb hby at_70) rfl (tlt (by decide)).1 (by decide) (by decide) ?_
        exact kt
      obtain ⟨T340, h340, X340, e340, E340, A340, D340, -, st340⟩ := newO X337 hx hZ hown (hw _ (List.mem_of_getElem? (i := 27) rfl)) (hw _ (List.mem_of_getElem? (i := 28) rfl)) (hw _ (List.mem_of_getElem? (i := 29) rfl)) rfl (g := (mkF m 91 #[.val (.int i0), .val (.int i1), .val (.int i2), .val (.int (1 : Int32)), .val (.int kk), .val (.ref al), .unset, .unset, .unset] [])) rfl (hb hby at_91) (by decide) (by decide)
      obtain ⟨fn, g340⟩ : ∃ z, z = T337.heap.size := ⟨_, rfl⟩
      rw [← g340] at A340 D340 st340
      have g_fn : n0 ≤ fn := Nat.le_trans Z0 (Nat.le_of_eq g340.symm)
      have sz_fn : h0.size ≤ fn := Nat.le_trans K0.1 (Nat.le_of_eq g340.symm)
      have E_al := E_al.ext E340
      have F_modCount_al := F_modCount_al.ext E340
      have F_elementData_al := F_elementData_al.ext E340
      have F_size_al := F_size_al.ext E340
      have V_ea := V_ea.ext E340
      have E_ea := E_ea.ext E340
      have E_s0 := E_s0.ext E340
      have Z0 := Nat.le_trans Z0 E340.1
      have K0 := K0.ext E340
      have go341 : Go p e below T340 (mkF m 94 #[.val (.int i0), .val (.int i1), .val (.int i2), .val (.int (1 : Int32)), .val (.int kk), .val (.ref al), .unset, .unset, .unset] [(.ref fn)]) S0 := fun t kt => go339 t (st340 _ kt)
      have E_fn := A340
      have F_names_fn : Fld Z h340 fn "com/example/tinlet/tinlet/deploy/descriptor/FragmentNames" "names" "Ljava/util/List;" .null := D340 (Or.inr (hw _ (List.mem_of_getElem? (i := 64) rfl))) (ty := (.object "java/util/List")) (by decide)
      have F_othersAt_fn : Fld Z h340 fn "com/example/tinlet/tinlet/deploy/descriptor/FragmentNames" "othersAt" "I" (.int (0 : Int32)) := D340 (Or.inr (hw _ (List.mem_of_getElem? (i := 66) rfl))) (ty := .int) (by decide)
      obtain ⟨g, gz, c12, cN, hgn, hP⟩ := own_pall Z (own_U Z h340) (State.Warmed39.refl Z : Z.Warmed39 (own_U Z h340).vm) hw hm (n := 1) E_al F_elementData_al F_size_al F_modCount_al V_ea E_ea (by decide) (by decide) (by decide) (fun v hv => by simp only [List.mem_cons, List.not_mem_nil, or_false] at hv; rcases hv with rfl | rfl | rfl | rfl | rfl | rfl | rfl | rfl | rfl | rfl <;> first | exact Or.inl rfl | exact Or.inr ⟨_, rfl, E_s0⟩) (fun i hi => by rcases (by omega : i = 0) with rfl <;> simp) (S_em.ext (own_et O0 (own_ext K0))) (S_el.ext (own_et O0 (own_ext K0)))
      have go342 : Go p e below T340 (mkF m 99 #[.val (.int i0), .val (.int i1), .val (.int i2), .val (.int (1 : Int32)), .val (.int kk), .val (.ref al), .unset, .unset, .unset] [(.int kk), (.ref al), (.ref fn), (.ref fn)]) S0 := by
        intro t kt
        refine go341 t ?_
        refine XS.dup X340.here hx rfl (hb hby at_94) rfl rfl ?_
        refine XS.aload X340.here hx rfl (hb hby at_95) rfl rfl ?_
        refine XS.iload X340.here hx rfl (hb hby at_97) rfl ?_
        exact kt
      obtain ⟨_, _, ⟨T343, L343, k343, n343⟩, -, X343, ⟨Lc343, hQ343, l343, y343, z343⟩, st343⟩ := X340.specialBack hx (y := (⟨"com/example/tinlet/tinlet/deploy/descriptor/FragmentNames", "<init>", "(Ljava/util/List;I)V"⟩ : MethodName)) rfl hown (mvT hZ (hw _ (List.mem_of_getElem? (i := 30) rfl))) (mvT hZ (hw _ (List.mem_of_getElem? (i := 31) rfl))) (mvT hZ (hw _ (List.mem_of_getElem? (i := 32) rfl))) (by decide) (backOf (W := 1) (rm_fninit l Z a0 hw [] fn al kk g gz c12 cN em el h340 n0 Z0 E_fn F_names_fn F_othersAt_fn g_fn hP) hZ (hw _ (List.mem_of_getElem? (i := 32) rfl)) (hw _ (List.mem_of_getElem? (i := 29) rfl)) (by decide) (by decide)) (g := (mkF m 99 #[.val (.int i0), .val (.int i1), .val (.int i2), .val (.int (1 : Int32)), .val (.int kk), .val (.ref al), .unset, .unset, .unset] [(.int kk), (.ref al), (.ref fn), (.ref fn)])) rfl (by rw [hml]; rfl) (Steps.refl _) (a := fn) (argsL := [(.ref al), (.int kk)]) (rest := [(.ref fn)]) (lenOf pdj__Ljava_util_List_I_V rfl) rfl (by show 2 * 0 + _ ≤ _; exact Nat.le_of_eq rfl) (hb hby at_99) (fun _ _ => ⟨rfl, e340, (by decide : 5 + 3 ≤ _), (by decide : 20 + 8 ≤ _)⟩)
      dsimp only [Pt.U, Pt.locs, Pt.cells, Pt.slots] at X343 l343 y343 z343 st343 hQ343
      subst l343 y343 z343
      obtain ⟨rfl, N343q, K343, E343, FO343, r, FN343, hr⟩ := hQ343
      have K0 := K0.trans K343 (allS (Or.inr sz_fn) all0)
      have Z0 := Nat.le_trans Z0 K343.1
      have E_fn := E343
      have F_othersAt_fn := FO343
      have F_names_fn := FN343
      have N343 := Fr.app N337 N343q
      have go344 : Go p e below T343 (mkF m 102 #[.val (.int i0), .val (.int i1), .val (.int i2), .val (.int (1 : Int32)), .val (.int kk), .val (.ref al), .unset, .unset, .unset] [(.ref fn)]) S0 := fun t kt => go342 t (st343.trans kt)
      have go345 : Go p e below T343 (mkF m 106 #[.val (.int i0), .val (.int i1), .val (.int i2), .val (.int (1 : Int32)), .val (.int kk), .val (.ref al), .val (.ref fn), .unset, .unset] [(.ref fn)]) S0 := by
        intro t kt
        refine go344 t ?_
        refine XS.astore X343.here hx rfl (hb hby at_102) rfl rfl (l' := #[.val (.int i0), .val (.int i1), .val (.int i2), .val (.int (1 : Int32)), .val (.int kk), .val (.ref al), .val (.ref fn), .unset, .unset]) rfl ?_
        refine XS.aload X343.here hx rfl (hb hby at_104) rfl rfl ?_
        exact kt
      obtain ⟨cq346, kq346, q346a, q346b, q346c⟩ := isOf hZ rfl E_fn
      obtain ⟨_, _, ⟨T346, L346, k346, n346⟩, -, X346, ⟨Lc346, hQ346, l346, y346, z346⟩, st346⟩ := X343.virtualBack hx (y := (⟨"com/example/tinlet/tinlet/deploy/descriptor/FragmentNames", "hasOthers", "()Z"⟩ : MethodName)) (z := (⟨"com/example/tinlet/tinlet/deploy/descriptor/FragmentNames", "hasOthers", "()Z"⟩ : MethodName)) hown (mvT hZ (hw _ (List.mem_of_getElem? (i := 67) rfl))) (mvT hZ (hw _ (List.mem_of_getElem? (i := 68) rfl))) (notFace_of_selects (args := #[]) (mvT hZ (hw _ (List.mem_of_getElem? (i := 70) rfl)))) (mvT hZ (hw _ (List.mem_of_getElem? (i := 70) rfl))) (mvT hZ (hw _ (List.mem_of_getElem? (i := 69) rfl))) (by decide) (backOf (W := 0) (rm_hasOthersN l Z a0 hw [] fn kk T343.heap n0 Z0 hk0 F_othersAt_fn) hZ (hw _ (List.mem_of_getElem? (i := 71) rfl)) (hw _ (List.mem_of_getElem? (i := 29) rfl)) (by decide) (by decide)) q346a q346c (g := (mkF m 106 #[.val (.int i0), .val (.int i1), .val (.int i2), .val (.int (1 : Int32)), .val (.int kk), .val (.ref al), .val (.ref fn), .unset, .unset] [(.ref fn)])) rfl (by rw [hml]; rfl) (Steps.refl _) (argsL := []) (rest := []) (lenOf pdj___Z rfl) rfl (by show 2 * 0 + _ ≤ _; exact Nat.le_of_eq rfl) (hb hby at_106) (fun _ _ => ⟨rfl, rfl, (by decide : 8 + 0 ≤ _), (by decide : 28 + 0 ≤ _)⟩)
      dsimp only [Pt.U, Pt.locs, Pt.cells, Pt.slots] at X346 l346 y346 z346 st346 hQ346
      subst l346 y346 z346
      obtain ⟨rfl, N346q, g346⟩ := hQ346
      have K0 := own_ks g346 K0
      rw [← g346] at E_fn F_othersAt_fn F_names_fn Z0
      have N346 := Fr.app N343 N346q
      have go347 : Go p e below T346 (mkF m 109 #[.val (.int i0), .val (.int i1), .val (.int i2), .val (.int (1 : Int32)), .val (.int kk), .val (.ref al), .val (.ref fn), .unset, .unset] [(.int (0 : Int32))]) S0 := fun t kt => go345 t (st346.trans kt)
      have go348 : Go p e below T346 (mkF m 162 #[.val (.int i0), .val (.int i1), .val (.int i2), .val (.int (1 : Int32)), .val (.int kk), .val (.ref al), .val (.ref fn), .val (.int (0 : Int32)), .val (.int (0 : Int32))] [(.int (1 : Int32))]) S0 := by
        intro t kt
        refine go347 t ?_
        refine XS.istore X346.here hx rfl (hb hby at_109) rfl (l' := #[.val (.int i0), .val (.int i1), .val (.int i2), .val (.int (1 : Int32)), .val (.int kk), .val (.ref al), .val (.ref fn), .val (.int (0 : Int32)), .unset]) rfl ?_
        refine XS.iload X346.here hx rfl (hb hby at_111) rfl ?_
        refine XS.iconst X346.here hx rfl (hb hby at_113) ?_
        refine XS.icmpYes X346.here hx rfl (pc0 := 114) (pc' := 121) rfl (hb hby at_114) rfl (teq hkm).1 (by decide) (by decide) ?_
        refine XS.iconst X346.here hx rfl (hb hby at_121) ?_
        refine XS.istore X346.here hx rfl (hb hby at_122) rfl (l' := #[.val (.int i0), .val (.int i1), .val (.int i2), .val (.int (1 : Int32)), .val (.int kk), .val (.ref al), .val (.ref fn), .val (.int (0 : Int32)), .val (.int (0 : Int32))]) rfl ?_
        show Steps p.tables e below (T346.setTop (mkF m 124 #[.val (.int i0), .val (.int i1), .val (.int i2), .val (.int (1 : Int32)), .val (.int kk), .val (.ref al), .val (.ref fn), .val (.int (0 : Int32)), .val (.int (0 : Int32))] [])) _
        refine XS.iload X346.here hx rfl (hb hby at_124) rfl ?_
        refine XS.iload X346.here hx rfl (hb hby at_126) rfl ?_
        refine XS.icmpYes X346.here hx rfl (pc0 := 128) (pc' := 133) rfl (hb hby at_128) rfl (teq rfl).1 (by decide) (by decide) ?_
        refine XS.iloadN X346.here hx rfl (hb hby at_133) rfl ?_
        refine XS.ifYes X346.here hx rfl (pc0 := 134) (pc' := 161) rfl (hb hby at_134) rfl ((if0 _ _).trans (feq (by decide)).2) (by decide) (by decide) ?_
        refine XS.iconst X346.here hx rfl (hb hby at_161) ?_
        exact kt
      obtain ⟨fs, hr, hrun, hended, hW, hsame⟩ := X346.leave (v := some (.int (1 : Int32))) (fun h => by rw [Bd.returns] at h; cases h)
      refine ⟨_, _, go348 _ ?_, hrun, hended, _, _, rfl, ?_, ⟨_, rfl⟩, hW, hsame.mono (by decide) (by decide)⟩
      · show Steps p.tables e below (T346.setTop (mkF m 162 #[.val (.int i0), .val (.int i1), .val (.int i2), .val (.int (1 : Int32)), .val (.int kk), .val (.ref al), .val (.ref fn), .val (.int (0 : Int32)), .val (.int (0 : Int32))] [(.int (1 : Int32))])) _
        exact retN X346 hx (t := .boolean) Bd.returns (by simp) (hb hby at_162) hr
      · show Q_rm0 Z i0 i1 i2 zc dc kd em el ee ke h0 n0 _ T346.heap _
        exact ⟨rfl, N346⟩
    · have hkm : ¬ kk = (-1 : Int32) := fun q => hk0 (by rw [q]; decide)
      obtain ⟨T349, h349, X349, e349, E349, A349, D349, -, st349⟩ := newO X0 hx hZ hown (hw _ (List.mem_of_getElem? (i := 1) rfl)) (hw _ (List.mem_of_getElem? (i := 2) rfl)) (hw _ (List.mem_of_getElem? (i := 3) rfl)) e0 (g := (mkF m 16 #[.val (.int i0), .val (.int i1), .val (.int i2), .val (.int (1 : Int32)), .val (.int kk), .unset, .unset, .unset, .unset] [])) rfl (hb hby at_16) (by decide) (by decide)
      obtain ⟨al, g349⟩ : ∃ z, z = h0.size := ⟨_, rfl⟩
      rw [← g349] at A349 D349 st349
      have g_al : n0 ≤ al := Nat.le_trans Z0 (Nat.le_of_eq g349.symm)
      have sz_al : h0.size ≤ al := Nat.le_trans K0.1 (Nat.le_of_eq g349.symm)
      have Z0 := Nat.le_trans Z0 E349.1
      have K0 := K0.ext E349
      have go350 : Go p e below T349 (mkF m 19 #[.val (.int i0), .val (.int i1), .val (.int i2), .val (.int (1 : Int32)), .val (.int kk), .unset, .unset, .unset, .unset] [(.ref al)]) S0 := fun t kt => go328 t (st349 _ kt)
      have E_al := A349
      have F_modCount_al : Fld Z h349 al "java/util/AbstractList" "modCount" "I" (.int (0 : Int32)) := D349 (Or.inl (hw _ (List.mem_of_getElem? (i := 23) rfl))) (ty := .int) (by decide)
      have F_elementData_al : Fld Z h349 al "java/util/ArrayList" "elementData" "[Ljava/lang/Object;" .null := D349 (Or.inl (hw _ (List.mem_of_getElem? (i := 26) rfl))) (ty := (.array (.object "java/lang/Object"))) (by decide)
      have F_size_al : Fld Z h349 al "java/util/ArrayList" "size" "I" (.int (0 : Int32)) := D349 (Or.inl (hw _ (List.mem_of_getElem? (i := 58) rfl))) (ty := .int) (by decide)
      have ne_dc_al : dc ≠ al := fun q => absurd (Nat.lt_of_lt_of_le V_dc.lt hn0) (Nat.not_lt.mpr (q ▸ g_al))
      have go351 : Go p e below T349 (mkF m 20 #[.val (.int i0), .val (.int i1), .val (.int i2), .val (.int (1 : Int32)), .val (.int kk), .unset, .unset, .unset, .unset] [(.ref al), (.ref al)]) S0 := by
        intro t kt
        refine go350 t ?_
        refine XS.dup X349.here hx rfl (hb hby at_19) rfl rfl ?_
        exact kt
      obtain ⟨_, _, ⟨T352, L352, k352, n352⟩, -, X352, ⟨Lc352, hQ352, l352, y352, z352⟩, st352⟩ := X349.specialBack hx (y := (⟨"java/util/ArrayList", "<init>", "()V"⟩ : MethodName)) rfl hown (mvT hZ (hw _ (List.mem_of_getElem? (i := 4) rfl))) (mvT hZ (hw _ (List.mem_of_getElem? (i := 5) rfl))) (mvT hZ (hw _ (List.mem_of_getElem? (i := 6) rfl))) (by decide) (backOf (W := 1) (rm_alinit l Z a0 hw [] al dc h349 n0 Z0 (own_et O0 (own_ext K0)) hn0 S_DC E_al F_modCount_al F_elementData_al F_size_al g_al) hZ (hw _ (List.mem_of_getElem? (i := 6) rfl)) (hw _ (List.mem_of_getElem? (i := 3) rfl)) (by decide) (by decide)) (g := (mkF m 20 #[.val (.int i0), .val (.int i1), .val (.int i2), .val (.int (1 : Int32)), .val (.int kk), .unset, .unset, .unset, .unset] [(.ref al), (.ref al)])) rfl (by rw [hml]; rfl) (Steps.refl _) (a := al) (argsL := []) (rest := [(.ref al)]) (lenOf pdj___V rfl) rfl (by show 2 * 0 + _ ≤ _; exact Nat.le_of_eq rfl) (hb hby at_20) (fun _ _ => ⟨rfl, e349, (by decide : 1 + 0 ≤ _), (by decide : 3 + 0 ≤ _)⟩)
      dsimp only [Pt.U, Pt.locs, Pt.cells, Pt.slots] at X352 l352 y352 z352 st352 hQ352
      subst l352 y352 z352
      obtain ⟨rfl, N352q, K352, E352, M352, D352, Sz352⟩ := hQ352
      have K0 := K0.trans K352 (allS (Or.inr sz_al) all0)
      have Z0 := Nat.le_trans Z0 K352.1
      have E_al := E352
      have F_modCount_al := M352
      have F_elementData_al := D352
      have F_size_al := Sz352
      have N352 := Fr.app N0 N352q
      have go353 : Go p e below T352 (mkF m 23 #[.val (.int i0), .val (.int i1), .val (.int i2), .val (.int (1 : Int32)), .val (.int kk), .unset, .unset, .unset, .unset] [(.ref al)]) S0 := fun t kt => go351 t (st352.trans kt)
      have go354 : Go p e below T352 (mkF m 38 #[.val (.int i0), .val (.int i1), .val (.int i2), .val (.int (1 : Int32)), .val (.int kk), .val (.ref al), .unset, .unset, .unset] [(.int ((i2 &&& (255 : Int32)).toUInt32.toUInt16.toUInt32.toInt32)), (.ref al)]) S0 := by
        intro t kt
        refine go353 t ?_
        refine XS.astore X352.here hx rfl (hb hby at_23) rfl rfl (l' := #[.val (.int i0), .val (.int i1), .val (.int i2), .val (.int (1 : Int32)), .val (.int kk), .val (.ref al), .unset, .unset, .unset]) rfl ?_
        refine XS.iloadN X352.here hx rfl (hb hby at_25) rfl ?_
        refine XS.iconst X352.here hx rfl (hb hby at_26) ?_
        refine XS.icmpNo X352.here hx rfl (hb hby at_27) rfl (flt (by decide)).1 ?_
        refine XS.aload X352.here hx rfl (hb hby at_30) rfl rfl ?_
        refine XS.iloadN X352.here hx rfl (hb hby at_32) rfl ?_
        show Steps p.tables e below (T352.setTop (mkF m 33 #[.val (.int i0), .val (.int i1), .val (.int i2), .val (.int (1 : Int32)), .val (.int kk), .val (.ref al), .unset, .unset, .unset] [(.int i2), (.ref al)])) _
        refine XS.sipush X352.here hx rfl (hb hby at_33) ?_
        refine XS.iand X352.here hx rfl (hb hby at_36) rfl ?_
        refine XS.i2c X352.here hx rfl (hb hby at_37) rfl ?_
        exact kt
      obtain ⟨_, _, ⟨T355, L355, k355, n355⟩, -, X355, ⟨Lc355, hQ355, l355, y355, z355⟩, st355⟩ := Jvm.LawKit.callS X352 hx (y := (⟨"java/lang/String", "valueOf", "(C)Ljava/lang/String;"⟩ : MethodName)) hown (mvT hZ (hw _ (List.mem_of_getElem? (i := 89) rfl))) (mvT hZ (hw _ (List.mem_of_getElem? (i := 90) rfl))) (mvT hZ (hw _ (List.mem_of_getElem? (i := 91) rfl))) (mvT hZ (hw _ (List.mem_of_getElem? (i := 92) rfl))) (by decide) (backOf (W := 1) (rm_valueOf l Z a0 hw [] ((i2 &&& (255 : Int32)).toUInt32.toUInt16.toUInt32.toInt32) zc T352.heap n0 Z0 (own_c _) P5 (S_CS.ext (own_et O0 (own_ext K0)))) hZ (hw _ (List.mem_of_getElem? (i := 92) rfl)) (hw _ (List.mem_of_getElem? (i := 91) rfl)) (by decide) (by decide)) (g := (mkF m 38 #[.val (.int i0), .val (.int i1), .val (.int i2), .val (.int (1 : Int32)), .val (.int kk), .val (.ref al), .unset, .unset, .unset] [(.int ((i2 &&& (255 : Int32)).toUInt32.toUInt16.toUInt32.toInt32)), (.ref al)])) rfl (by rw [hml]; rfl) (argsL := [(.int ((i2 &&& (255 : Int32)).toUInt32.toUInt16.toUInt32.toInt32))]) (rest := [(.ref al)]) (lenOf pdj__C_Ljava_lang_String_ rfl) rfl (by show 2 * 0 + _ ≤ _; exact Nat.le_of_eq rfl) (hb hby at_38) (fun _ _ => ⟨rfl, rfl, (by decide : 1 + 2 ≤ _), (by decide : 3 + 5 ≤ _)⟩)
      dsimp only [Pt.U, Pt.locs, Pt.cells, Pt.slots] at X355 l355 y355 z355 st355 hQ355
      subst l355 y355 z355
      obtain ⟨s0, rfl, N355q, E355, ES355⟩ := hQ355
      have E_al := E_al.ext E355
      have F_modCount_al := F_modCount_al.ext E355
      have F_elementData_al := F_elementData_al.ext E355
      have F_size_al := F_size_al.ext E355
      have Z0 := Nat.le_trans Z0 E355.1
      have K0 := K0.ext E355
      have N355 := Fr.app N352 N355q
      have go356 : Go p e below T355 (mkF m 41 #[.val (.int i0), .val (.int i1), .val (.int i2), .val (.int (1 : Int32)), .val (.int kk), .val (.ref al), .unset, .unset, .unset] [(.ref s0), (.ref al)]) S0 := fun t kt => go354 t (st355 _ kt)
      have E_s0 := ES355
      obtain ⟨cq357, kq357, q357a, q357b, q357c⟩ := isOf hZ rfl E_al
      obtain ⟨_, _, ⟨T357, L357, k357, n357⟩, -, X357, ⟨Lc357, hQ357, l357, y357, z357⟩, st357⟩ := X355.virtualBack hx (y := (⟨"java/util/ArrayList", "add", "(Ljava/lang/Object;)Z"⟩ : MethodName)) (z := (⟨"java/util/ArrayList", "add", "(Ljava/lang/Object;)Z"⟩ : MethodName)) hown (mvT hZ (hw _ (List.mem_of_getElem? (i := 113) rfl))) (mvT hZ (hw _ (List.mem_of_getElem? (i := 114) rfl))) (notFace_of_selects (args := #[]) (mvT hZ (hw _ (List.mem_of_getElem? (i := 116) rfl)))) (mvT hZ (hw _ (List.mem_of_getElem? (i := 116) rfl))) (mvT hZ (hw _ (List.mem_of_getElem? (i := 115) rfl))) (by decide) (backOf (W := 0) (rm_add0 l Z a0 hw [] al s0 dc kd (0 : Int32) T355.heap n0 Z0 (own_et O0 (own_ext K0)) hn0 ne_dc_al S_DC (V_dc.ext (own_et O0 (own_ext K0))) E_al F_modCount_al F_elementData_al F_size_al g_al E_s0) hZ (hw _ (List.mem_of_getElem? (i := 117) rfl)) (hw _ (List.mem_of_getElem? (i := 3) rfl)) (by decide) (by decide)) q357a q357c (g := (mkF m 41 #[.val (.int i0), .val (.int i1), .val (.int i2), .val (.int (1 : Int32)), .val (.int kk), .val (.ref al), .unset, .unset, .unset] [(.ref s0), (.ref al)])) rfl (by rw [hml]; rfl) (Steps.refl _) (argsL := [(.ref s0)]) (rest := []) (lenOf pdj__Ljava_lang_Object__Z rfl) rfl (by show 2 * 0 + _ ≤ _; exact Nat.le_of_eq rfl) (hb hby at_41) (fun _ _ => ⟨rfl, rfl, (by decide : 3 + 1 ≤ _), (by decide : 8 + 10 ≤ _)⟩)
      dsimp only [Pt.U, Pt.locs, Pt.cells, Pt.slots] at X357 l357 y357 z357 st357 hQ357
      subst l357 y357 z357
      obtain ⟨ea, ka, rfl, N357q, K357, sz357, E357, M357, D357, Sz357, g_ea, ne_al_ea, V357, EX357, O_ea⟩ := hQ357
      have sz_ea : h0.size ≤ ea := Nat.le_trans K0.1 sz357
      have K0 := K0.trans K357 (allS (Or.inr sz_al) all0)
      have Z0 := Nat.le_trans Z0 K357.1
      have E_al := E357
      have F_modCount_al := M357
      have F_elementData_al := D357
      have F_size_al := Sz357
      have V_ea := V357
      have E_ea := EX357
      have E_s0 := E_s0.keep K357
      have N357 := Fr.app N355 N357q
      have go358 : Go p e below T357 (mkF m 44 #[.val (.int i0), .val (.int i1), .val (.int i2), .val (.int (1 : Int32)), .val (.int kk), .val (.ref al), .unset, .unset, .unset] [(.int (1 : Int32))]) S0 := fun t kt => go356 t (st357.trans kt)
      have go359 : Go p e below T357 (mkF m 91 #[.val (.int i0), .val (.int i1), .val (.int i2), .val (.int (1 : Int32)), .val (.int kk), .val (.ref al), .unset, .unset, .unset] []) S0 := by
        intro t kt
        refine go358 t ?_
        refine XS.pop X357.here hx rfl (hb hby at_44) rfl rfl ?_
        refine XS.iloadN X357.here hx rfl (hb hby at_45) rfl ?_
        refine XS.iconst X357.here hx rfl (hb hby at_46) ?_
        refine XS.icmpYes X357.here hx rfl (pc0 := 47) (pc' := 68) rfl (hb hby at_47) rfl (tlt (by decide)).1 (by decide) (by decide) ?_
        refine XS.iloadN X357.here hx rfl (hb hby at_68) rfl ?_
        refine XS.iconst X357.here hx rfl (hb hby at_69) ?_
        show Steps p.tables e below (T357.setTop (mkF m 70 #[.val (.int i0), .val (.int i1), .val (.int i2), .val (.int (1 : Int32)), .val (.int kk), .val (.ref al), .unset, .unset, .unset] [(.int (3 : Int32)), (.int (1 : Int32))])) _
        refine XS.icmpYes X357.here hx rfl (pc0 := 70) (pc' := 91) rfl (hb hby at_70) rfl (tlt (by decide)).1 (by decide) (by decide) ?_
        exact kt
      obtain ⟨T360, h360, X360, e360, E360, A360, D360, -, st360⟩ := newO X357 hx hZ hown (hw _ (List.mem_of_getElem? (i := 27) rfl)) (hw _ (List.mem_of_getElem? (i := 28) rfl)) (hw _ (List.mem_of_getElem? (i := 29) rfl)) rfl (g := (mkF m 91 #[.val (.int i0), .val (.int i1), .val (.int i2), .val (.int (1 : Int32)), .val (.int kk), .val (.ref al), .unset, .unset, .unset] [])) rfl (hb hby at_91) (by decide) (by decide)
      obtain ⟨fn, g360⟩ : ∃ z, z = T357.heap.size := ⟨_, rfl⟩
      rw [← g360] at A360 D360 st360
      have g_fn : n0 ≤ fn := Nat.le_trans Z0 (Nat.le_of_eq g360.symm)
      have sz_fn : h0.size ≤ fn := Nat.le_trans K0.1 (Nat.le_of_eq g360.symm)
      have E_al := E_al.ext E360
      have F_modCount_al := F_modCount_al.ext E360
      have F_elementData_al := F_elementData_al.ext E360
      have F_size_al := F_size_al.ext E360
      have V_ea := V_ea.ext E360
      have E_ea := E_ea.ext E360
      have E_s0 := E_s0.ext E360
      have Z0 := Nat.le_trans Z0 E360.1
      have K0 := K0.ext E360
      have go361 : Go p e below T360 (mkF m 94 #[.val (.int i0), .val (.int i1), .val (.int i2), .val (.int (1 : Int32)), .val (.int kk), .val (.ref al), .unset, .unset, .unset] [(.ref fn)]) S0 := fun t kt => go359 t (st360 _ kt)
      have E_fn := A360
      have F_names_fn : Fld Z h360 fn "com/example/tinlet/tinlet/deploy/descriptor/FragmentNames" "names" "Ljava/util/List;" .null := D360 (Or.inr (hw _ (List.mem_of_getElem? (i := 64) rfl))) (ty := (.object "java/util/List")) (by decide)
      have F_othersAt_fn : Fld Z h360 fn "com/example/tinlet/tinlet/deploy/descriptor/FragmentNames" "othersAt" "I" (.int (0 : Int32)) := D360 (Or.inr (hw _ (List.mem_of_getElem? (i := 66) rfl))) (ty := .int) (by decide)
      obtain ⟨g, gz, c12, cN, hgn, hP⟩ := own_pall Z (own_U Z h360) (State.Warmed39.refl Z : Z.Warmed39 (own_U Z h360).vm) hw hm (n := 1) E_al F_elementData_al F_size_al F_modCount_al V_ea E_ea (by decide) (by decide) (by decide) (fun v hv => by simp only [List.mem_cons, List.not_mem_nil, or_false] at hv; rcases hv with rfl | rfl | rfl | rfl | rfl | rfl | rfl | rfl | rfl | rfl <;> first | exact Or.inl rfl | exact Or.inr ⟨_, rfl, E_s0⟩) (fun i hi => by rcases (by omega : i = 0) with rfl <;> simp) (S_em.ext (own_et O0 (own_ext K0))) (S_el.ext (own_et O0 (own_ext K0)))
      have go362 : Go p e below T360 (mkF m 99 #[.val (.int i0), .val (.int i1), .val (.int i2), .val (.int (1 : Int32)), .val (.int kk), .val (.ref al), .unset, .unset, .unset] [(.int kk), (.ref al), (.ref fn), (.ref fn)]) S0 := by
        intro t kt
        refine go361 t ?_
        refine XS.dup X360.here hx rfl (hb hby at_94) rfl rfl ?_
        refine XS.aload X360.here hx rfl (hb hby at_95) rfl rfl ?_
        refine XS.iload X360.here hx rfl (hb hby at_97) rfl ?_
        exact kt
      obtain ⟨_, _, ⟨T363, L363, k363, n363⟩, -, X363, ⟨Lc363, hQ363, l363, y363, z363⟩, st363⟩ := X360.specialBack hx (y := (⟨"com/example/tinlet/tinlet/deploy/descriptor/FragmentNames", "<init>", "(Ljava/util/List;I)V"⟩ : MethodName)) rfl hown (mvT hZ (hw _ (List.mem_of_getElem? (i := 30) rfl))) (mvT hZ (hw _ (List.mem_of_getElem? (i := 31) rfl))) (mvT hZ (hw _ (List.mem_of_getElem? (i := 32) rfl))) (by decide) (backOf (W := 1) (rm_fninit l Z a0 hw [] fn al kk g gz c12 cN em el h360 n0 Z0 E_fn F_names_fn F_othersAt_fn g_fn hP) hZ (hw _ (List.mem_of_getElem? (i := 32) rfl)) (hw _ (List.mem_of_getElem? (i := 29) rfl)) (by decide) (by decide)) (g := (mkF m 99 #[.val (.int i0), .val (.int i1), .val (.int i2), .val (.int (1 : Int32)), .val (.int kk), .val (.ref al), .unset, .unset, .unset] [(.int kk), (.ref al), (.ref fn), (.ref fn)])) rfl (by rw [hml]; rfl) (Steps.refl _) (a := fn) (argsL := [(.ref al), (.int kk)]) (rest := [(.ref fn)]) (lenOf pdj__Ljava_util_List_I_V rfl) rfl (by show 2 * 0 + _ ≤ _; exact Nat.le_of_eq rfl) (hb hby at_99) (fun _ _ => ⟨rfl, e360, (by decide : 5 + 3 ≤ _), (by decide : 20 + 8 ≤ _)⟩)
      dsimp only [Pt.U, Pt.locs, Pt.cells, Pt.slots] at X363 l363 y363 z363 st363 hQ363
      subst l363 y363 z363
      obtain ⟨rfl, N363q, K363, E363, FO363, r, FN363, hr⟩ := hQ363
      have K0 := K0.trans K363 (allS (Or.inr sz_fn) all0)
      have Z0 := Nat.le_trans Z0 K363.1
      have E_fn := E363
      have F_othersAt_fn := FO363
      have F_names_fn := FN363
      have N363 := Fr.app N357 N363q
      have go364 : Go p e below T363 (mkF m 102 #[.val (.int i0), .val (.int i1), .val (.int i2), .val (.int (1 : Int32)), .val (.int kk), .val (.ref al), .unset, .unset, .unset] [(.ref fn)]) S0 := fun t kt => go362 t (st363.trans kt)
      have go365 : Go p e below T363 (mkF m 106 #[.val (.int i0), .val (.int i1), .val (.int i2), .val (.int (1 : Int32)), .val (.int kk), .val (.ref al), .val (.ref fn), .unset, .unset] [(.ref fn)]) S0 := by
        intro t kt
        refine go364 t ?_
        refine XS.astore X363.here hx rfl (hb hby at_102) rfl rfl (l' := #[.val (.int i0), .val (.int i1), .val (.int i2), .val (.int (1 : Int32)), .val (.int kk), .val (.ref al), .val (.ref fn), .unset, .unset]) rfl ?_
        refine XS.aload X363.here hx rfl (hb hby at_104) rfl rfl ?_
        exact kt
      obtain ⟨cq366, kq366, q366a, q366b, q366c⟩ := isOf hZ rfl E_fn
      obtain ⟨_, _, ⟨T366, L366, k366, n366⟩, -, X366, ⟨Lc366, hQ366, l366, y366, z366⟩, st366⟩ := X363.virtualBack hx (y := (⟨"com/example/tinlet/tinlet/deploy/descriptor/FragmentNames", "hasOthers", "()Z"⟩ : MethodName)) (z := (⟨"com/example/tinlet/tinlet/deploy/descriptor/FragmentNames", "hasOthers", "()Z"⟩ : MethodName)) hown (mvT hZ (hw _ (List.mem_of_getElem? (i := 67) rfl))) (mvT hZ (hw _ (List.mem_of_getElem? (i := 68) rfl))) (notFace_of_selects (args := #[]) (mvT hZ (hw _ (List.mem_of_getElem? (i := 70) rfl)))) (mvT hZ (hw _ (List.mem_of_getElem? (i := 70) rfl))) (mvT hZ (hw _ (List.mem_of_getElem? (i := 69) rfl))) (by decide) (backOf (W := 0) (rm_hasOthersY l Z a0 hw [] fn kk T363.heap n0 Z0 hk0 F_othersAt_fn) hZ (hw _ (List.mem_of_getElem? (i := 71) rfl)) (hw _ (List.mem_of_getElem? (i := 29) rfl)) (by decide) (by decide)) q366a q366c (g := (mkF m 106 #[.val (.int i0), .val (.int i1), .val (.int i2), .val (.int (1 : Int32)), .val (.int kk), .val (.ref al), .val (.ref fn), .unset, .unset] [(.ref fn)])) rfl (by rw [hml]; rfl) (Steps.refl _) (argsL := []) (rest := []) (lenOf pdj___Z rfl) rfl (by show 2 * 0 + _ ≤ _; exact Nat.le_of_eq rfl) (hb hby at_106) (fun _ _ => ⟨rfl, rfl, (by decide : 8 + 0 ≤ _), (by decide : 28 + 0 ≤ _)⟩)
      dsimp only [Pt.U, Pt.locs, Pt.cells, Pt.slots] at X366 l366 y366 z366 st366 hQ366
      subst l366 y366 z366
      obtain ⟨rfl, N366q, g366⟩ := hQ366
      have K0 := own_ks g366 K0
      rw [← g366] at E_fn F_othersAt_fn F_names_fn Z0
      have N366 := Fr.app N363 N366q
      have go367 : Go p e below T366 (mkF m 109 #[.val (.int i0), .val (.int i1), .val (.int i2), .val (.int (1 : Int32)), .val (.int kk), .val (.ref al), .val (.ref fn), .unset, .unset] [(.int (1 : Int32))]) S0 := fun t kt => go365 t (st366.trans kt)
      have go368 : Go p e below T366 (mkF m 162 #[.val (.int i0), .val (.int i1), .val (.int i2), .val (.int (1 : Int32)), .val (.int kk), .val (.ref al), .val (.ref fn), .val (.int (1 : Int32)), .val (.int (1 : Int32))] [(.int (1 : Int32))]) S0 := by
        intro t kt
        refine go367 t ?_
        refine XS.istore X366.here hx rfl (hb hby at_109) rfl (l' := #[.val (.int i0), .val (.int i1), .val (.int i2), .val (.int (1 : Int32)), .val (.int kk), .val (.ref al), .val (.ref fn), .val (.int (1 : Int32)), .unset]) rfl ?_
        refine XS.iload X366.here hx rfl (hb hby at_111) rfl ?_
        refine XS.iconst X366.here hx rfl (hb hby at_113) ?_
        refine XS.icmpNo X366.here hx rfl (hb hby at_114) rfl (feq hkm).1 ?_
        refine XS.iconst X366.here hx rfl (hb hby at_117) ?_
        refine XS.goto X366.here hx rfl (pc0 := 118) (pc' := 122) rfl (hb hby at_118) (by decide) (by decide) ?_
        show Steps p.tables e below (T366.setTop (mkF m 122 #[.val (.int i0), .val (.int i1), .val (.int i2), .val (.int (1 : Int32)), .val (.int kk), .val (.ref al), .val (.ref fn), .val (.int (1 : Int32)), .unset] [(.int (1 : Int32))])) _
        refine XS.istore X366.here hx rfl (hb hby at_122) rfl (l' := #[.val (.int i0), .val (.int i1), .val (.int i2), .val (.int (1 : Int32)), .val (.int kk), .val (.ref al), .val (.ref fn), .val (.int (1 : Int32)), .val (.int (1 : Int32))]) rfl ?_
        refine XS.iload X366.here hx rfl (hb hby at_124) rfl ?_
        refine XS.iload X366.here hx rfl (hb hby at_126) rfl ?_
        refine XS.icmpYes X366.here hx rfl (pc0 := 128) (pc' := 133) rfl (hb hby at_128) rfl (teq rfl).1 (by decide) (by decide) ?_
        refine XS.iloadN X366.here hx rfl (hb hby at_133) rfl ?_
        refine XS.ifYes X366.here hx rfl (pc0 := 134) (pc' := 161) rfl (hb hby at_134) rfl ((if0 _ _).trans (feq (by decide)).2) (by decide) (by decide) ?_
        show Steps p.tables e below (T366.setTop (mkF m 161 #[.val (.int i0), .val (.int i1), .val (.int i2), .val (.int (1 : Int32)), .val (.int kk), .val (.ref al), .val (.ref fn), .val (.int (1 : Int32)), .val (.int (1 : Int32))] [])) _
        refine XS.iconst X366.here hx rfl (hb hby at_161) ?_
        exact kt
      obtain ⟨fs, hr, hrun, hended, hW, hsame⟩ := X366.leave (v := some (.int (1 : Int32))) (fun h => by rw [Bd.returns] at h; cases h)
      refine ⟨_, _, go368 _ ?_, hrun, hended, _, _, rfl, ?_, ⟨_, rfl⟩, hW, hsame.mono (by decide) (by decide)⟩
      · show Steps p.tables e below (T366.setTop (mkF m 162 #[.val (.int i0), .val (.int i1), .val (.int i2), .val (.int (1 : Int32)), .val (.int kk), .val (.ref al), .val (.ref fn), .val (.int (1 : Int32)), .val (.int (1 : Int32))] [(.int (1 : Int32))])) _
        exact retN X366 hx (t := .boolean) Bd.returns (by simp) (hb hby at_162) hr
      · show Q_rm0 Z i0 i1 i2 zc dc kd em el ee ke h0 n0 _ T366.heap _
        exact ⟨rfl, N366⟩
  · have go369 : Go p e below s₁ (mkF m 4 #[.val (.int i0), .val (.int i1), .val (.int i2), .val (.int (2 : Int32)), .unset, .unset, .unset, .unset, .unset] []) S0 := by have q := go286; rw [hn] at q; exact q
    have go370 : Go p e below s₁ (mkF m 16 #[.val (.int i0), .val (.int i1), .val (.int i2), .val (.int (2 : Int32)), .val (.int (((i1 &&& (2147483647 : Int32)) - ((i1 &&& (2147483647 : Int32)) / (4 : Int32)) * (4 : Int32)) - (1 : Int32))), .unset, .unset, .unset, .unset] []) S0 := by
      intro t kt
      refine go369 t ?_
      refine XS.iloadN X0.here hx rfl (hb hby at_4) rfl ?_
      refine X0.ldcInt hx hown (mvT hZ (hw _ (List.mem_of_getElem? (i := 0) rfl))) (g := (mkF m 5 #[.val (.int i0), .val (.int i1), .val (.int i2), .val (.int (2 : Int32)), .unset, .unset, .unset, .unset, .unset] [(.int i1)])) rfl (hb hby at_5) _ ?_
      refine XS.iand X0.here hx rfl (hb hby at_7) rfl ?_
      refine XS.iloadN X0.here hx rfl (hb hby at_8) rfl ?_
      refine XS.iconst X0.here hx rfl (hb hby at_9) ?_
      refine XS.iadd X0.here hx rfl (hb hby at_10) rfl ?_
      show Steps p.tables e below (s₁.setTop (mkF m 11 #[.val (.int i0), .val (.int i1), .val (.int i2), .val (.int (2 : Int32)), .unset, .unset, .unset, .unset, .unset] [(.int (4 : Int32)), (.int (i1 &&& (2147483647 : Int32)))])) _
      refine XS.irem X0.here hx rfl (hb hby at_11) rfl (by decide) ?_
      refine XS.iconst X0.here hx rfl (hb hby at_12) ?_
      refine XS.isub X0.here hx rfl (hb hby at_13) rfl ?_
      refine XS.istore X0.here hx rfl (hb hby at_14) rfl (l' := #[.val (.int i0), .val (.int i1), .val (.int i2), .val (.int (2 : Int32)), .val (.int (((i1 &&& (2147483647 : Int32)) - ((i1 &&& (2147483647 : Int32)) / (4 : Int32)) * (4 : Int32)) - (1 : Int32))), .unset, .unset, .unset, .unset]) rfl ?_
      exact kt
    obtain ⟨kk, hkk⟩ : ∃ z : Int32, z = (((i1 &&& (2147483647 : Int32)) - ((i1 &&& (2147483647 : Int32)) / (4 : Int32)) * (4 : Int32)) - (1 : Int32)) := ⟨_, rfl⟩
    have go371 : Go p e below s₁ (mkF m 16 #[.val (.int i0), .val (.int i1), .val (.int i2), .val (.int (2 : Int32)), .val (.int kk), .unset, .unset, .unset, .unset] []) S0 := by rw [hkk]; exact go370
    have hkl := own_k i1 (4 : Int32) kk (by decide) hkk
    by_cases hk0 : kk < (0 : Int32)
    · have hkm := hkl hk0
      obtain ⟨T372, h372, X372, e372, E372, A372, D372, -, st372⟩ := newO X0 hx hZ hown (hw _ (List.mem_of_getElem? (i := 1) rfl)) (hw _ (List.mem_of_getElem? (i := 2) rfl)) (hw _ (List.mem_of_getElem? (i := 3) rfl)) e0 (g := (mkF m 16 #[.val (.int i0), .val (.int i1), .val (.int i2), .val (.int (2 : Int32)), .val (.int kk), .unset, .unset, .unset, .unset] [])) rfl (hb hby at_16) (by decide) (by decide)
      obtain ⟨al, g372⟩ : ∃ z, z = h0.size := ⟨_, rfl⟩
      rw [← g372] at A372 D372 st372
      have g_al : n0 ≤ al := Nat.le_trans Z0 (Nat.le_of_eq g372.symm)
      have sz_al : h0.size ≤ al := Nat.le_trans K0.1 (Nat.le_of_eq g372.symm)
      have Z0 := Nat.le_trans Z0 E372.1
      have K0 := K0.ext E372
      have go373 : Go p e below T372 (mkF m 19 #[.val (.int i0), .val (.int i1), .val (.int i2), .val (.int (2 : Int32)), .val (.int kk), .unset, .unset, .unset, .unset] [(.ref al)]) S0 := fun t kt => go371 t (st372 _ kt)
      have E_al := A372
      have F_modCount_al : Fld Z h372 al "java/util/AbstractList" "modCount" "I" (.int (0 : Int32)) := D372 (Or.inl (hw _ (List.mem_of_getElem? (i := 23) rfl))) (ty := .int) (by decide)
      have F_elementData_al : Fld Z h372 al "java/util/ArrayList" "elementData" "[Ljava/lang/Object;" .null := D372 (Or.inl (hw _ (List.mem_of_getElem? (i := 26) rfl))) (ty := (.array (.object "java/lang/Object"))) (by decide)
      have F_size_al : Fld Z h372 al "java/util/ArrayList" "size" "I" (.int (0 : Int32)) := D372 (Or.inl (hw _ (List.mem_of_getElem? (i := 58) rfl))) (ty := .int) (by decide)
      have ne_dc_al : dc ≠ al := fun q => absurd (Nat.lt_of_lt_of_le V_dc.lt hn0) (Nat.not_lt.mpr (q ▸ g_al))
      have go374 : Go p e below T372 (mkF m 20 #[.val (.int i0), .val (.int i1), .val (.int i2), .val (.int (2 : Int32)), .val (.int kk), .unset, .unset, .unset, .unset] [(.ref al), (.ref al)]) S0 := by
        intro t kt
        refine go373 t ?_
        refine XS.dup X372.here hx rfl (hb hby at_19) rfl rfl ?_
        exact kt
      obtain ⟨_, _, ⟨T375, L375, k375, n375⟩, -, X375, ⟨Lc375, hQ375, l375, y375, z375⟩, st375⟩ := X372.specialBack hx (y := (⟨"java/util/ArrayList", "<init>", "()V"⟩ : MethodName)) rfl hown (mvT hZ (hw _ (List.mem_of_getElem? (i := 4) rfl))) (mvT hZ (hw _ (List.mem_of_getElem? (i := 5) rfl))) (mvT hZ (hw _ (List.mem_of_getElem? (i := 6) rfl))) (by decide) (backOf (W := 1) (rm_alinit l Z a0 hw [] al dc h372 n0 Z0 (own_et O0 (own_ext K0)) hn0 S_DC E_al F_modCount_al F_elementData_al F_size_al g_al) hZ (hw _ (List.mem_of_getElem? (i := 6) rfl)) (hw _ (List.mem_of_getElem? (i := 3) rfl)) (by decide) (by decide)) (g := (mkF m 20 #[.val (.int i0), .val (.int i1), .val (.int i2), .val (.int (2 : Int32)), .val (.int kk), .unset, .unset, .unset, .unset] [(.ref al), (.ref al)])) rfl (by rw [hml]; rfl) (Steps.refl _) (a := al) (argsL := []) (rest := [(.ref al)]) (lenOf pdj___V rfl) rfl (by show 2 * 0 + _ ≤ _; exact Nat.le_of_eq rfl) (hb hby at_20) (fun _ _ => ⟨rfl, e372, (by decide : 1 + 0 ≤ _), (by decide : 3 + 0 ≤ _)⟩)
      dsimp only [Pt.U, Pt.locs, Pt.cells, Pt.slots] at X375 l375 y375 z375 st375 hQ375
      subst l375 y375 z375
      obtain ⟨rfl, N375q, K375, E375, M375, D375, Sz375⟩ := hQ375
      have K0 := K0.trans K375 (allS (Or.inr sz_al) all0)
      have Z0 := Nat.le_trans Z0 K375.1
      have E_al := E375
      have F_modCount_al := M375
      have F_elementData_al := D375
      have F_size_al := Sz375
      have N375 := Fr.app N0 N375q
      have go376 : Go p e below T375 (mkF m 23 #[.val (.int i0), .val (.int i1), .val (.int i2), .val (.int (2 : Int32)), .val (.int kk), .unset, .unset, .unset, .unset] [(.ref al)]) S0 := fun t kt => go374 t (st375.trans kt)
      have go377 : Go p e below T375 (mkF m 38 #[.val (.int i0), .val (.int i1), .val (.int i2), .val (.int (2 : Int32)), .val (.int kk), .val (.ref al), .unset, .unset, .unset] [(.int ((i2 &&& (255 : Int32)).toUInt32.toUInt16.toUInt32.toInt32)), (.ref al)]) S0 := by
        intro t kt
        refine go376 t ?_
        refine XS.astore X375.here hx rfl (hb hby at_23) rfl rfl (l' := #[.val (.int i0), .val (.int i1), .val (.int i2), .val (.int (2 : Int32)), .val (.int kk), .val (.ref al), .unset, .unset, .unset]) rfl ?_
        refine XS.iloadN X375.here hx rfl (hb hby at_25) rfl ?_
        refine XS.iconst X375.here hx rfl (hb hby at_26) ?_
        refine XS.icmpNo X375.here hx rfl (hb hby at_27) rfl (flt (by decide)).1 ?_
        refine XS.aload X375.here hx rfl (hb hby at_30) rfl rfl ?_
        refine XS.iloadN X375.here hx rfl (hb hby at_32) rfl ?_
        show Steps p.tables e below (T375.setTop (mkF m 33 #[.val (.int i0), .val (.int i1), .val (.int i2), .val (.int (2 : Int32)), .val (.int kk), .val (.ref al), .unset, .unset, .unset] [(.int i2), (.ref al)])) _
        refine XS.sipush X375.here hx rfl (hb hby at_33) ?_
        refine XS.iand X375.here hx rfl (hb hby at_36) rfl ?_
        refine XS.i2c X375.here hx rfl (hb hby at_37) rfl ?_
        exact kt
      obtain ⟨_, _, ⟨T378, L378, k378, n378⟩, -, X378, ⟨Lc378, hQ378, l378, y378, z378⟩, st378⟩ := Jvm.LawKit.callS X375 hx (y := (⟨"java/lang/String", "valueOf", "(C)Ljava/lang/String;"⟩ : MethodName)) hown (mvT hZ (hw _ (List.mem_of_getElem? (i := 89) rfl))) (mvT hZ (hw _ (List.mem_of_getElem? (i := 90) rfl))) (mvT hZ (hw _ (List.mem_of_getElem? (i := 91) rfl))) (mvT hZ (hw _ (List.mem_of_getElem? (i := 92) rfl))) (by decide) (backOf (W := 1) (rm_valueOf l Z a0 hw [] ((i2 &&& (255 : Int32)).toUInt32.toUInt16.toUInt32.toInt32) zc T375.heap n0 Z0 (own_c _) P5 (S_CS.ext (own_et O0 (own_ext K0)))) hZ (hw _ (List.mem_of_getElem? (i := 92) rfl)) (hw _ (List.mem_of_getElem? (i := 91) rfl)) (by decide) (by decide)) (g := (mkF m 38 #[.val (.int i0), .val (.int i1), .val (.int i2), .val (.int (2 : Int32)), .val (.int kk), .val (.ref al), .unset, .unset, .unset] [(.int ((i2 &&& (255 : Int32)).toUInt32.toUInt16.toUInt32.toInt32)), (.ref al)])) rfl (by rw [hml]; rfl) (argsL := [(.int ((i2 &&& (255 : Int32)).toUInt32.toUInt16.toUInt32.toInt32))]) (rest := [(.ref al)]) (lenOf pdj__C_Ljava_lang_String_ rfl) rfl (by show 2 * 0 + _ ≤ _; exact Nat.le_of_eq rfl) (hb hby at_38) (fun _ _ => ⟨rfl, rfl, (by decide : 1 + 2 ≤ _), (by decide : 3 + 5 ≤ _)⟩)
      dsimp only [Pt.U, Pt.locs, Pt.cells, Pt.slots] at X378 l378 y378 z378 st378 hQ378
      subst l378 y378 z378
      obtain ⟨s0, rfl, N378q, E378, ES378⟩ := hQ378
      have E_al := E_al.ext E378
      have F_modCount_al := F_modCount_al.ext E378
      have F_elementData_al := F_elementData_al.ext E378
      have F_size_al := F_size_al.ext E378
      have Z0 := Nat.le_trans Z0 E378.1
      have K0 := K0.ext E378
      have N378 := Fr.app N375 N378q
      have go379 : Go p e below T378 (mkF m 41 #[.val (.int i0), .val (.int i1), .val (.int i2), .val (.int (2 : Int32)), .val (.int kk), .val (.ref al), .unset, .unset, .unset] [(.ref s0), (.ref al)]) S0 := fun t kt => go377 t (st378 _ kt)
      have E_s0 := ES378
      obtain ⟨cq380, kq380, q380a, q380b, q380c⟩ := isOf hZ rfl E_al
      obtain ⟨_, _, ⟨T380, L380, k380, n380⟩, -, X380, ⟨Lc380, hQ380, l380, y380, z380⟩, st380⟩ := X378.virtualBack hx (y := (⟨"java/util/ArrayList", "add", "(Ljava/lang/Object;)Z"⟩ : MethodName)) (z := (⟨"java/util/ArrayList", "add", "(Ljava/lang/Object;)Z"⟩ : MethodName)) hown (mvT hZ (hw _ (List.mem_of_getElem? (i := 113) rfl))) (mvT hZ (hw _ (List.mem_of_getElem? (i := 114) rfl))) (notFace_of_selects (args := #[]) (mvT hZ (hw _ (List.mem_of_getElem? (i := 116) rfl)))) (mvT hZ (hw _ (List.mem_of_getElem? (i := 116) rfl))) (mvT hZ (hw _ (List.mem_of_getElem? (i := 115) rfl))) (by decide) (backOf (W := 0) (rm_add0 l Z a0 hw [] al s0 dc kd (0 : Int32) T378.heap n0 Z0 (own_et O0 (own_ext K0)) hn0 ne_dc_al S_DC (V_dc.ext (own_et O0 (own_ext K0))) E_al F_modCount_al F_elementData_al F_size_al g_al E_s0) hZ (hw _ (List.mem_of_getElem? (i := 117) rfl)) (hw _ (List.mem_of_getElem? (i := 3) rfl)) (by decide) (by decide)) q380a q380c (g := (mkF m 41 #[.val (.int i0), .val (.int i1), .val (.int i2), .val (.int (2 : Int32)), .val (.int kk), .val (.ref al), .unset, .unset, .unset] [(.ref s0), (.ref al)])) rfl (by rw [hml]; rfl) (Steps.refl _) (argsL := [(.ref s0)]) (rest := []) (lenOf pdj__Ljava_lang_Object__Z rfl) rfl (by show 2 * 0 + _ ≤ _; exact Nat.le_of_eq rfl) (hb hby at_41) (fun _ _ => ⟨rfl, rfl, (by decide : 3 + 1 ≤ _), (by decide : 8 + 10 ≤ _)⟩)
      dsimp only [Pt.U, Pt.locs, Pt.cells, Pt.slots] at X380 l380 y380 z380 st380 hQ380
      subst l380 y380 z380
      obtain ⟨ea, ka, rfl, N380q, K380, sz380, E380, M380, D380, Sz380, g_ea, ne_al_ea, V380, EX380, O_ea⟩ := hQ380
      have sz_ea : h0.size ≤ ea := Nat.le_trans K0.1 sz380
      have K0 := K0.trans K380 (allS (Or.inr sz_al) all0)
      have Z0 := Nat.le_trans Z0 K380.1
      have E_al := E380
      have F_modCount_al := M380
      have F_elementData_al := D380
      have F_size_al := Sz380
      have V_ea := V380
      have E_ea := EX380
      have E_s0 := E_s0.keep K380
      have N380 := Fr.app N378 N380q
      have go381 : Go p e below T380 (mkF m 44 #[.val (.int i0), .val (.int i1), .val (.int i2), .val (.int (2 : Int32)), .val (.int kk), .val (.ref al), .unset, .unset, .unset] [(.int (1 : Int32))]) S0 := fun t kt => go379 t (st380.trans kt)
      have go382 : Go p e below T380 (mkF m 61 #[.val (.int i0), .val (.int i1), .val (.int i2), .val (.int (2 : Int32)), .val (.int kk), .val (.ref al), .unset, .unset, .unset] [(.int ((((i2.toUInt32 >>> ((8 : Int32) &&& 31).toUInt32).toInt32) &&& (255 : Int32)).toUInt32.toUInt16.toUInt32.toInt32)), (.ref al)]) S0 := by
        intro t kt
        refine go381 t ?_
        refine XS.pop X380.here hx rfl (hb hby at_44) rfl rfl ?_
        refine XS.iloadN X380.here hx rfl (hb hby at_45) rfl ?_
        refine XS.iconst X380.here hx rfl (hb hby at_46) ?_
        refine XS.icmpNo X380.here hx rfl (hb hby at_47) rfl (flt (by decide)).1 ?_
        refine XS.aload X380.here hx rfl (hb hby at_50) rfl rfl ?_
        refine XS.iloadN X380.here hx rfl (hb hby at_52) rfl ?_
        show Steps p.tables e below (T380.setTop (mkF m 53 #[.val (.int i0), .val (.int i1), .val (.int i2), .val (.int (2 : Int32)), .val (.int kk), .val (.ref al), .unset, .unset, .unset] [(.int i2), (.ref al)])) _
        refine XS.bipush X380.here hx rfl (hb hby at_53) ?_
        refine XS.iushr X380.here hx rfl (hb hby at_55) rfl ?_
        refine XS.sipush X380.here hx rfl (hb hby at_56) ?_
        refine XS.iand X380.here hx rfl (hb hby at_59) rfl ?_
        refine XS.i2c X380.here hx rfl (hb hby at_60) rfl ?_
        exact kt
      obtain ⟨_, _, ⟨T383, L383, k383, n383⟩, -, X383, ⟨Lc383, hQ383, l383, y383, z383⟩, st383⟩ := Jvm.LawKit.callS X380 hx (y := (⟨"java/lang/String", "valueOf", "(C)Ljava/lang/String;"⟩ : MethodName)) hown (mvT hZ (hw _ (List.mem_of_getElem? (i := 89) rfl))) (mvT hZ (hw _ (List.mem_of_getElem? (i := 90) rfl))) (mvT hZ (hw _ (List.mem_of_getElem? (i := 91) rfl))) (mvT hZ (hw _ (List.mem_of_getElem? (i := 92) rfl))) (by decide) (backOf (W := 1) (rm_valueOf l Z a0 hw [] ((((i2.toUInt32 >>> ((8 : Int32) &&& 31).toUInt32).toInt32) &&& (255 : Int32)).toUInt32.toUInt16.toUInt32.toInt32) zc T380.heap n0 Z0 (own_c _) P5 (S_CS.ext (own_et O0 (own_ext K0)))) hZ (hw _ (List.mem_of_getElem? (i := 92) rfl)) (hw _ (List.mem_of_getElem? (i := 91) rfl)) (by decide) (by decide)) (g := (mkF m 61 #[.val (.int i0), .val (.int i1), .val (.int i2), .val (.int (2 : Int32)), .val (.int kk), .val (.ref al), .unset, .unset, .unset] [(.int ((((i2.toUInt32 >>> ((8 : Int32) &&& 31).toUInt32).toInt32) &&& (255 : Int32)).toUInt32.toUInt16.toUInt32.toInt32)), (.ref al)])) rfl (by rw [hml]; rfl) (argsL := [(.int ((((i2.toUInt32 >>> ((8 : Int32) &&& 31).toUInt32).toInt32) &&& (255 : Int32)).toUInt32.toUInt16.toUInt32.toInt32))]) (rest := [(.ref al)]) (lenOf pdj__C_Ljava_lang_String_ rfl) rfl (by show 2 * 0 + _ ≤ _; exact Nat.le_of_eq rfl) (hb hby at_61) (fun _ _ => ⟨rfl, rfl, (by decide : 4 + 2 ≤ _), (by decide : 18 + 5 ≤ _)⟩)
      dsimp only [Pt.U, Pt.locs, Pt.cells, Pt.slots] at X383 l383 y383 z383 st383 hQ383
      subst l383 y383 z383
      obtain ⟨s1, rfl, N383q, E383, ES383⟩ := hQ383
      have E_al := E_al.ext E383
      have F_modCount_al := F_modCount_al.ext E383
      have F_elementData_al := F_elementData_al.ext E383
      have F_size_al := F_size_al.ext E383
      have V_ea := V_ea.ext E383
      have E_ea := E_ea.ext E383
      have E_s0 := E_s0.ext E383
      have Z0 := Nat.le_trans Z0 E383.1
      have K0 := K0.ext E383
      have N383 := Fr.app N380 N383q
      have go384 : Go p e below T383 (mkF m 64 #[.val (.int i0), .val (.int i1), .val (.int i2), .val (.int (2 : Int32)), .val (.int kk), .val (.ref al), .unset, .unset, .unset] [(.ref s1), (.ref al)]) S0 := fun t kt => go382 t (st383 _ kt)
      have E_s1 := ES383
      obtain ⟨cq385, kq385, q385a, q385b, q385c⟩ := isOf hZ rfl E_al
      obtain ⟨_, _, ⟨T385, L385, k385, n385⟩, -, X385, ⟨Lc385, hQ385, l385, y385, z385⟩, st385⟩ := X383.virtualBack hx (y := (⟨"java/util/ArrayList", "add", "(Ljava/lang/Object;)Z"⟩ : MethodName)) (z := (⟨"java/util/ArrayList", "add", "(Ljava/lang/Object;)Z"⟩ : MethodName)) hown (mvT hZ (hw _ (List.mem_of_getElem? (i := 113) rfl))) (mvT hZ (hw _ (List.mem_of_getElem? (i := 114) rfl))) (notFace_of_selects (args := #[]) (mvT hZ (hw _ (List.mem_of_getElem? (i := 116) rfl)))) (mvT hZ (hw _ (List.mem_of_getElem? (i := 116) rfl))) (mvT hZ (hw _ (List.mem_of_getElem? (i := 115) rfl))) (by decide) (backOf (W := 0) (rm_add1 l Z a0 hw [] al s1 ea ka s0 ((0 : Int32) + (1 : Int32)) T383.heap n0 Z0 E_al F_modCount_al F_elementData_al F_size_al g_al g_ea ne_al_ea V_ea E_ea O_ea E_s1) hZ (hw _ (List.mem_of_getElem? (i := 117) rfl)) (hw _ (List.mem_of_getElem? (i := 3) rfl)) (by decide) (by decide)) q385a q385c (g := (mkF m 64 #[.val (.int i0), .val (.int i1), .val (.int i2), .val (.int (2 : Int32)), .val (.int kk), .val (.ref al), .unset, .unset, .unset] [(.ref s1), (.ref al)])) rfl (by rw [hml]; rfl) (Steps.refl _) (argsL := [(.ref s1)]) (rest := []) (lenOf pdj__Ljava_lang_Object__Z rfl) rfl (by show 2 * 0 + _ ≤ _; exact Nat.le_of_eq rfl) (hb hby at_64) (fun _ _ => ⟨rfl, rfl, (by decide : 6 + 0 ≤ _), (by decide : 23 + 0 ≤ _)⟩)
      dsimp only [Pt.U, Pt.locs, Pt.cells, Pt.slots] at X385 l385 y385 z385 st385 hQ385
      subst l385 y385 z385
      obtain ⟨rfl, N385q, K385, E385, M385, D385, Sz385, V385, EX385⟩ := hQ385
      have K0 := K0.trans K385 (allS (Or.inr sz_al) (allS (Or.inr sz_ea) all0))
      have Z0 := Nat.le_trans Z0 K385.1
      have E_al := E385
      have F_modCount_al := M385
      have F_elementData_al := D385
      have F_size_al := Sz385
      have V_ea := V385
      have E_ea := EX385
      have E_s0 := E_s0.keep K385
      have E_s1 := E_s1.keep K385
      have N385 := Fr.app N383 N385q
      have go386 : Go p e below T385 (mkF m 67 #[.val (.int i0), .val (.int i1), .val (.int i2), .val (.int (2 : Int32)), .val (.int kk), .val (.ref al), .unset, .unset, .unset] [(.int (1 : Int32))]) S0 := fun t kt => go384 t (st385.trans kt)
      have go387 : Go p e below T385 (mkF m 91 #[.val (.int i0), .val (.int i1), .val (.int i2), .val (.int (2 : Int32)), .val (.int kk), .val (.ref al), .unset, .unset, .unset] []) S0 := by
        intro t kt
        refine go386 t ?_
        refine XS.pop X385.here hx rfl (hb hby at_67) rfl rfl ?_
        refine XS.iloadN X385.here hx rfl (hb hby at_68) rfl ?_
        refine XS.iconst X385.here hx rfl (hb hby at_69) ?_
        refine XS.icmpYes X385.here hx rfl (pc0 := 70) (pc' := 91) rfl (hb hby at_70) rfl (tlt (by decide)).1 (by decide) (by decide) ?_
        exact kt
      obtain ⟨T388, h388, X388, e388, E388, A388, D388, -, st388⟩ := newO X385 hx hZ hown (hw _ (List.mem_of_getElem? (i := 27) rfl)) (hw _ (List.mem_of_getElem? (i := 28) rfl)) (hw _ (List.mem_of_getElem? (i := 29) rfl)) rfl (g := (mkF m 91 #[.val (.int i0), .val (.int i1), .val (.int i2), .val (.int (2 : Int32)), .val (.int kk), .val (.ref al), .unset, .unset, .unset] [])) rfl (hb hby at_91) (by decide) (by decide)
      obtain ⟨fn, g388⟩ : ∃ z, z = T385.heap.size := ⟨_, rfl⟩
      rw [← g388] at A388 D388 st388
      have g_fn : n0 ≤ fn := Nat.le_trans Z0 (Nat.le_of_eq g388.symm)
      have sz_fn : h0.size ≤ fn := Nat.le_trans K0.1 (Nat.le_of_eq g388.symm)
      have E_al := E_al.ext E388
      have F_modCount_al := F_modCount_al.ext E388
      have F_elementData_al := F_elementData_al.ext E388
      have F_size_al := F_size_al.ext E388
      have V_ea := V_ea.ext E388
      have E_ea := E_ea.ext E388
      have E_s0 := E_s0.ext E388
      have E_s1 := E_s1.ext E388
      have Z0 := Nat.le_trans Z0 E388.1
      have K0 := K0.ext E388
      have go389 : Go p e below T388 (mkF m 94 #[.val (.int i0), .val (.int i1), .val (.int i2), .val (.int (2 : Int32)), .val (.int kk), .val (.ref al), .unset, .unset, .unset] [(.ref fn)]) S0 := fun t kt => go387 t (st388 _ kt)
      have E_fn := A388
      have F_names_fn : Fld Z h388 fn "com/example/tinlet/tinlet/deploy/descriptor/FragmentNames" "names" "Ljava/util/List;" .null := D388 (Or.inr (hw _ (List.mem_of_getElem? (i := 64) rfl))) (ty := (.object "java/util/List")) (by decide)
      have F_othersAt_fn : Fld Z h388 fn "com/example/tinlet/tinlet/deploy/descriptor/FragmentNames" "othersAt" "I" (.int (0 : Int32)) := D388 (Or.inr (hw _ (List.mem_of_getElem? (i := 66) rfl))) (ty := .int) (by decide)
      obtain ⟨g, gz, c12, cN, hgn, hP⟩ := own_pall Z (own_U Z h388) (State.Warmed39.refl Z : Z.Warmed39 (own_U Z h388).vm) hw hm (n := 2) E_al F_elementData_al F_size_al F_modCount_al V_ea E_ea (by decide) (by decide) (by decide) (fun v hv => by simp only [List.mem_cons, List.not_mem_nil, or_false] at hv; rcases hv with rfl | rfl | rfl | rfl | rfl | rfl | rfl | rfl | rfl | rfl <;> first | exact Or.inl rfl | exact Or.inr ⟨_, rfl, E_s0⟩ | exact Or.inr ⟨_, rfl, E_s1⟩) (fun i hi => by rcases (by omega : i = 0 ∨ i = 1) with rfl | rfl <;> simp) (S_em.ext (own_et O0 (own_ext K0))) (S_el.ext (own_et O0 (own_ext K0)))
      have go390 : Go p e below T388 (mkF m 99 #[.val (.int i0), .val (.int i1), .val (.int i2), .val (.int (2 : Int32)), .val (.int kk), .val (.ref al), .unset, .unset, .unset] [(.int kk), (.ref al), (.ref fn), (.ref fn)]) S0 := by
        intro t kt
        refine go389 t ?_
        refine XS.dup X388.here hx rfl (hb hby at_94) rfl rfl ?_
        refine XS.aload X388.here hx rfl (hb hby at_95) rfl rfl ?_
        refine XS.iload X388.here hx rfl (hb hby at_97) rfl ?_
        exact kt
      obtain ⟨_, _, ⟨T391, L391, k391, n391⟩, -, X391, ⟨Lc391, hQ391, l391, y391, z391⟩, st391⟩ := X388.specialBack hx (y := (⟨"com/example/tinlet/tinlet/deploy/descriptor/FragmentNames", "<init>", "(Ljava/util/List;I)V"⟩ : MethodName)) rfl hown (mvT hZ (hw _ (List.mem_of_getElem? (i := 30) rfl))) (mvT hZ (hw _ (List.mem_of_getElem? (i := 31) rfl))) (mvT hZ (hw _ (List.mem_of_getElem? (i := 32) rfl))) (by decide) (backOf (W := 1) (rm_fninit l Z a0 hw [] fn al kk g gz c12 cN em el h388 n0 Z0 E_fn F_names_fn F_othersAt_fn g_fn hP) hZ (hw _ (List.mem_of_getElem? (i := 32) rfl)) (hw _ (List.mem_of_getElem? (i := 29) rfl)) (by decide) (by decide)) (g := (mkF m 99 #[.val (.int i0), .val (.int i1), .val (.int i2), .val (.int (2 : Int32)), .val (.int kk), .val (.ref al), .unset, .unset, .unset] [(.int kk), (.ref al), (.ref fn), (.ref fn)])) rfl (by rw [hml]; rfl) (Steps.refl _) (a := fn) (argsL := [(.ref al), (.int kk)]) (rest := [(.ref fn)]) (lenOf pdj__Ljava_util_List_I_V rfl) rfl (by show 2 * 0 + _ ≤ _; exact Nat.le_of_eq rfl) (hb hby at_99) (fun _ _ => ⟨rfl, e388, (by decide : 7 + 3 ≤ _), (by decide : 25 + 8 ≤ _)⟩)
      dsimp only [Pt.U, Pt.locs, Pt.cells, Pt.slots] at X391 l391 y391 z391 st391 hQ391
      subst l391 y391 z391
      obtain ⟨rfl, N391q, K391, E391, FO391, r, FN391, hr⟩ := hQ391
      have K0 := K0.trans K391 (allS (Or.inr sz_fn) all0)
      have Z0 := Nat.le_trans Z0 K391.1
      have E_fn := E391
      have F_othersAt_fn := FO391
      have F_names_fn := FN391
      have N391 := Fr.app N385 N391q
      have go392 : Go p e below T391 (mkF m 102 #[.val (.int i0), .val (.int i1), .val (.int i2), .val (.int (2 : Int32)), .val (.int kk), .val (.ref al), .unset, .unset, .unset] [(.ref fn)]) S0 := fun t kt => go390 t (st391.trans kt)
      have go393 : Go p e below T391 (mkF m 106 #[.val (.int i0), .val (.int i1), .val (.int i2), .val (.int (2 : Int32)), .val (.int kk), .val (.ref al), .val (.ref fn), .unset, .unset] [(.ref fn)]) S0 := by
        intro t kt
        refine go392 t ?_
        refine XS.astore X391.here hx rfl (hb hby at_102) rfl rfl (l' := #[.val (.int i0), .val (.int i1), .val (.int i2), .val (.int (2 : Int32)), .val (.int kk), .val (.ref al), .val (.ref fn), .unset, .unset]) rfl ?_
        refine XS.aload X391.here hx rfl (hb hby at_104) rfl rfl ?_
        exact kt
      obtain ⟨cq394, kq394, q394a, q394b, q394c⟩ := isOf hZ rfl E_fn
      obtain ⟨_, _, ⟨T394, L394, k394, n394⟩, -, X394, ⟨Lc394, hQ394, l394, y394, z394⟩, st394⟩ := X391.virtualBack hx (y := (⟨"com/example/tinlet/tinlet/deploy/descriptor/FragmentNames", "hasOthers", "()Z"⟩ : MethodName)) (z := (⟨"com/example/tinlet/tinlet/deploy/descriptor/FragmentNames", "hasOthers", "()Z"⟩ : MethodName)) hown (mvT hZ (hw _ (List.mem_of_getElem? (i := 67) rfl))) (mvT hZ (hw _ (List.mem_of_getElem? (i := 68) rfl))) (notFace_of_selects (args := #[]) (mvT hZ (hw _ (List.mem_of_getElem? (i := 70) rfl)))) (mvT hZ (hw _ (List.mem_of_getElem? (i := 70) rfl))) (mvT hZ (hw _ (List.mem_of_getElem? (i := 69) rfl))) (by decide) (backOf (W := 0) (rm_hasOthersN l Z a0 hw [] fn kk T391.heap n0 Z0 hk0 F_othersAt_fn) hZ (hw _ (List.mem_of_getElem? (i := 71) rfl)) (hw _ (List.mem_of_getElem? (i := 29) rfl)) (by decide) (by decide)) q394a q394c (g := (mkF m 106 #[.val (.int i0), .val (.int i1), .val (.int i2), .val (.int (2 : Int32)), .val (.int kk), .val (.ref al), .val (.ref fn), .unset, .unset] [(.ref fn)])) rfl (by rw [hml]; rfl) (Steps.refl _) (argsL := []) (rest := []) (lenOf pdj___Z rfl) rfl (by show 2 * 0 + _ ≤ _; exact Nat.le_of_eq rfl) (hb hby at_106) (fun _ _ => ⟨rfl, rfl, (by decide : 10 + 0 ≤ _), (by decide : 33 + 0 ≤ _)⟩)
      dsimp only [Pt.U, Pt.locs, Pt.cells, Pt.slots] at X394 l394 y394 z394 st394 hQ394
      subst l394 y394 z394
      obtain ⟨rfl, N394q, g394⟩ := hQ394
      have K0 := own_ks g394 K0
      rw [← g394] at E_fn F_othersAt_fn F_names_fn Z0
      have N394 := Fr.app N391 N394q
      have go395 : Go p e below T394 (mkF m 109 #[.val (.int i0), .val (.int i1), .val (.int i2), .val (.int (2 : Int32)), .val (.int kk), .val (.ref al), .val (.ref fn), .unset, .unset] [(.int (0 : Int32))]) S0 := fun t kt => go393 t (st394.trans kt)
      have go396 : Go p e below T394 (mkF m 162 #[.val (.int i0), .val (.int i1), .val (.int i2), .val (.int (2 : Int32)), .val (.int kk), .val (.ref al), .val (.ref fn), .val (.int (0 : Int32)), .val (.int (0 : Int32))] [(.int (1 : Int32))]) S0 := by
        intro t kt
        refine go395 t ?_
        refine XS.istore X394.here hx rfl (hb hby at_109) rfl (l' := #[.val (.int i0), .val (.int i1), .val (.int i2), .val (.int (2 : Int32)), .val (.int kk), .val (.ref al), .val (.ref fn), .val (.int (0 : Int32)), .unset]) rfl ?_
        refine XS.iload X394.here hx rfl (hb hby at_111) rfl ?_
        refine XS.iconst X394.here hx rfl (hb hby at_113) ?_
        refine XS.icmpYes X394.here hx rfl (pc0 := 114) (pc' := 121) rfl (hb hby at_114) rfl (teq hkm).1 (by decide) (by decide) ?_
        refine XS.iconst X394.here hx rfl (hb hby at_121) ?_
        refine XS.istore X394.here hx rfl (hb hby at_122) rfl (l' := #[.val (.int i0), .val (.int i1), .val (.int i2), .val (.int (2 : Int32)), .val (.int kk), .val (.ref al), .val (.ref fn), .val (.int (0 : Int32)), .val (.int (0 : Int32))]) rfl ?_
        show Steps p.tables e below (T394.setTop (mkF m 124 #[.val (.int i0), .val (.int i1), .val (.int i2), .val (.int (2 : Int32)), .val (.int kk), .val (.ref al), .val (.ref fn), .val (.int (0 : Int32)), .val (.int (0 : Int32))] [])) _
        refine XS.iload X394.here hx rfl (hb hby at_124) rfl ?_
        refine XS.iload X394.here hx rfl (hb hby at_126) rfl ?_
        refine XS.icmpYes X394.here hx rfl (pc0 := 128) (pc' := 133) rfl (hb hby at_128) rfl (teq rfl).1 (by decide) (by decide) ?_
        refine XS.iloadN X394.here hx rfl (hb hby at_133) rfl ?_
        refine XS.ifYes X394.here hx rfl (pc0 := 134) (pc' := 161) rfl (hb hby at_134) rfl ((if0 _ _).trans (feq (by decide)).2) (by decide) (by decide) ?_
        refine XS.iconst X394.here hx rfl (hb hby at_161) ?_
        exact kt
      obtain ⟨fs, hr, hrun, hended, hW, hsame⟩ := X394.leave (v := some (.int (1 : Int32))) (fun h => by rw [Bd.returns] at h; cases h)
      refine ⟨_, _, go396 _ ?_, hrun, hended, _, _, rfl, ?_, ⟨_, rfl⟩, hW, hsame.mono (by decide) (by decide)⟩
      · show Steps p.tables e below (T394.setTop (mkF m 162 #[.val (.int i0), .val (.int i1), .val (.int i2), .val (.int (2 : Int32)), .val (.int kk), .val (.ref al), .val (.ref fn), .val (.int (0 : Int32)), .val (.int (0 : Int32))] [(.int (1 : Int32))])) _
        exact retN X394 hx (t := .boolean) Bd.returns (by simp) (hb hby at_162) hr
      · show Q_rm0 Z i0 i1 i2 zc dc kd em el ee ke h0 n0 _ T394.heap _
        exact ⟨rfl, N394⟩
    · have hkm : ¬ kk = (-1 : Int32) := fun q => hk0 (by rw [q]; decide)
      obtain ⟨T397, h397, X397, e397, E397, A397, D397, -, st397⟩ := newO X0 hx hZ hown (hw _ (List.mem_of_getElem? (i := 1) rfl)) (hw _ (List.mem_of_getElem? (i := 2) rfl)) (hw _ (List.mem_of_getElem? (i := 3) rfl)) e0 (g := (mkF m 16 #[.val (.int i0), .val (.int i1), .val (.int i2), .val (.int (2 : Int32)), .val (.int kk), .unset, .unset, .unset, .unset] [])) rfl (hb hby at_16) (by decide) (by decide)
      obtain ⟨al, g397⟩ : ∃ z, z = h0.size := ⟨_, rfl⟩
      rw [← g397] at A397 D397 st397
      have g_al : n0 ≤ al := Nat.le_trans Z0 (Nat.le_of_eq g397.symm)
      have sz_al : h0.size ≤ al := Nat.le_trans K0.1 (Nat.le_of_eq g397.symm)
      have Z0 := Nat.le_trans Z0 E397.1
      have K0 := K0.ext E397
      have go398 : Go p e below T397 (mkF m 19 #[.val (.int i0), .val (.int i1), .val (.int i2), .val (.int (2 : Int32)), .val (.int kk), .unset, .unset, .unset, .unset] [(.ref al)]) S0 := fun t kt => go371 t (st397 _ kt)
      have E_al := A397
      have F_modCount_al : Fld Z h397 al "java/util/AbstractList" "modCount" "I" (.int (0 : Int32)) := D397 (Or.inl (hw _ (List.mem_of_getElem? (i := 23) rfl))) (ty := .int) (by decide)
      have F_elementData_al : Fld Z h397 al "java/util/ArrayList" "elementData" "[Ljava/lang/Object;" .null := D397 (Or.inl (hw _ (List.mem_of_getElem? (i := 26) rfl))) (ty := (.array (.object "java/lang/Object"))) (by decide)
      have F_size_al : Fld Z h397 al "java/util/ArrayList" "size" "I" (.int (0 : Int32)) := D397 (Or.inl (hw _ (List.mem_of_getElem? (i := 58) rfl))) (ty := .int) (by decide)
      have ne_dc_al : dc ≠ al := fun q => absurd (Nat.lt_of_lt_of_le V_dc.lt hn0) (Nat.not_lt.mpr (q ▸ g_al))
      have go399 : Go p e below T397 (mkF m 20 #[.val (.int i0), .val (.int i1), .val (.int i2), .val (.int (2 : Int32)), .val (.int kk), .unset, .unset, .unset, .unset] [(.ref al), (.ref al)]) S0 := by
        intro t kt
        refine go398 t ?_
        refine XS.dup X397.here hx rfl (hb hby at_19) rfl rfl ?_
        exact kt
      obtain ⟨_, _, ⟨T400, L400, k400, n400⟩, -, X400, ⟨Lc400, hQ400, l400, y400, z400⟩, st400⟩ := X397.specialBack hx (y := (⟨"java/util/ArrayList", "<init>", "()V"⟩ : MethodName)) rfl hown (mvT hZ (hw _ (List.mem_of_getElem? (i := 4) rfl))) (mvT hZ (hw _ (List.mem_of_getElem? (i := 5) rfl))) (mvT hZ (hw _ (List.mem_of_getElem? (i := 6) rfl))) (by decide) (backOf (W := 1) (rm_alinit l Z a0 hw [] al dc h397 n0 Z0 (own_et O0 (own_ext K0)) hn0 S_DC E_al F_modCount_al F_elementData_al F_size_al g_al) hZ (hw _ (List.mem_of_getElem? (i := 6) rfl)) (hw _ (List.mem_of_getElem? (i := 3) rfl)) (by decide) (by decide)) (g := (mkF m 20 #[.val (.int i0), .val (.int i1), .val (.int i2), .val (.int (2 : Int32)), .val (.int kk), .unset, .unset, .unset, .unset] [(.ref al), (.ref al)])) rfl (by rw [hml]; rfl) (Steps.refl _) (a := al) (argsL := []) (rest := [(.ref al)]) (lenOf pdj___V rfl) rfl (by show 2 * 0 + _ ≤ _; exact Nat.le_of_eq rfl) (hb hby at_20) (fun _ _ => ⟨rfl, e397, (by decide : 1 + 0 ≤ _), (by decide : 3 + 0 ≤ _)⟩)
      dsimp only [Pt.U, Pt.locs, Pt.cells, Pt.slots] at X400 l400 y400 z400 st400 hQ400
      subst l400 y400 z400
      obtain ⟨rfl, N400q, K400, E400, M400, D400, Sz400⟩ := hQ400
      have K0 := K0.trans K400 (allS (Or.inr sz_al) all0)
      have Z0 := Nat.le_trans Z0 K400.1
      have E_al := E400
      have F_modCount_al := M400
      have F_elementData_al := D400
      have F_size_al := Sz400
      have N400 := Fr.app N0 N400q
      have go401 : Go p e below T400 (mkF m 23 #[.val (.int i0), .val (.int i1), .val (.int i2), .val (.int (2 : Int32)), .val (.int kk), .unset, .unset, .unset, .unset] [(.ref al)]) S0 := fun t kt => go399 t (st400.trans kt)
      have go402 : Go p e below T400 (mkF m 38 #[.val (.int i0), .val (.int i1), .val (.int i2), .val (.int (2 : Int32)), .val (.int kk), .val (.ref al), .unset, .unset, .unset] [(.int ((i2 &&& (255 : Int32)).toUInt32.toUInt16.toUInt32.toInt32)), (.ref al)]) S0 := by
        intro t kt
        refine go401 t ?_
        refine XS.astore X400.here hx rfl (hb hby at_23) rfl rfl (l' := #[.val (.int i0), .val (.int i1), .val (.int i2), .val (.int (2 : Int32)), .val (.int kk), .val (.ref al), .unset, .unset, .unset]) rfl ?_
        refine XS.iloadN X400.here hx rfl (hb hby at_25) rfl ?_
        refine XS.iconst X400.here hx rfl (hb hby at_26) ?_
        refine XS.icmpNo X400.here hx rfl (hb hby at_27) rfl (flt (by decide)).1 ?_
        refine XS.aload X400.here hx rfl (hb hby at_30) rfl rfl ?_
        refine XS.iloadN X400.here hx rfl (hb hby at_32) rfl ?_
        show Steps p.tables e below (T400.setTop (mkF m 33 #[.val (.int i0), .val (.int i1), .val (.int i2), .val (.int (2 : Int32)), .val (.int kk), .val (.ref al), .unset, .unset, .unset] [(.int i2), (.ref al)])) _
        refine XS.sipush X400.here hx rfl (hb hby at_33) ?_
        refine XS.iand X400.here hx rfl (hb hby at_36) rfl ?_
        refine XS.i2c X400.here hx rfl (hb hby at_37) rfl ?_
        exact kt
      obtain ⟨_, _, ⟨T403, L403, k403, n403⟩, -, X403, ⟨Lc403, hQ403, l403, y403, z403⟩, st403⟩ := Jvm.LawKit.callS X400 hx (y := (⟨"java/lang/String", "valueOf", "(C)Ljava/lang/String;"⟩ : MethodName)) hown (mvT hZ (hw _ (List.mem_of_getElem? (i := 89) rfl))) (mvT hZ (hw _ (List.mem_of_getElem? (i := 90) rfl))) (mvT hZ (hw _ (List.mem_of_getElem? (i := 91) rfl))) (mvT hZ (hw _ (List.mem_of_getElem? (i := 92) rfl))) (by decide) (backOf (W := 1) (rm_valueOf l Z a0 hw [] ((i2 &&& (255 : Int32)).toUInt32.toUInt16.toUInt32.toInt32) zc T400.heap n0 Z0 (own_c _) P5 (S_CS.ext (own_et O0 (own_ext K0)))) hZ (hw _ (List.mem_of_getElem? (i := 92) rfl)) (hw _ (List.mem_of_getElem? (i := 91) rfl)) (by decide) (by decide)) (g := (mkF m 38 #[.val (.int i0), .val (.int i1), .val (.int i2), .val (.int (2 : Int32)), .val (.int kk), .val (.ref al), .unset, .unset, .unset] [(.int ((i2 &&& (255 : Int32)).toUInt32.toUInt16.toUInt32.toInt32)), (.ref al)])) rfl (by rw [hml]; rfl) (argsL := [(.int ((i2 &&& (255 : Int32)).toUInt32.toUInt16.toUInt32.toInt32))]) (rest := [(.ref al)]) (lenOf pdj__C_Ljava_lang_String_ rfl) rfl (by show 2 * 0 + _ ≤ _; exact Nat.le_of_eq rfl) (hb hby at_38) (fun _ _ => ⟨rfl, rfl, (by decide : 1 + 2 ≤ _), (by decide : 3 + 5 ≤ _)⟩)
      dsimp only [Pt.U, Pt.locs, Pt.cells, Pt.slots] at X403 l403 y403 z403 st403 hQ403
      subst l403 y403 z403
      obtain ⟨s0, rfl, N403q, E403, ES403⟩ := hQ403
      have E_al := E_al.ext E403
      have F_modCount_al := F_modCount_al.ext E403
      have F_elementData_al := F_elementData_al.ext E403
      have F_size_al := F_size_al.ext E403
      have Z0 := Nat.le_trans Z0 E403.1
      have K0 := K0.ext E403
      have N403 := Fr.app N400 N403q
      have go404 : Go p e below T403 (mkF m 41 #[.val (.int i0), .val (.int i1), .val (.int i2), .val (.int (2 : Int32)), .val (.int kk), .val (.ref al), .unset, .unset, .unset] [(.ref s0), (.ref al)]) S0 := fun t kt => go402 t (st403 _ kt)
      have E_s0 := ES403
      obtain ⟨cq405, kq405, q405a, q405b, q405c⟩ := isOf hZ rfl E_al
      obtain ⟨_, _, ⟨T405, L405, k405, n405⟩, -, X405, ⟨Lc405, hQ405, l405, y405, z405⟩, st405⟩ := X403.virtualBack hx (y := (⟨"java/util/ArrayList", "add", "(Ljava/lang/Object;)Z"⟩ : MethodName)) (z := (⟨"java/util/ArrayList", "add", "(Ljava/lang/Object;)Z"⟩ : MethodName)) hown (mvT hZ (hw _ (List.mem_of_getElem? (i := 113) rfl))) (mvT hZ (hw _ (List.mem_of_getElem? (i := 114) rfl))) (notFace_of_selects (args := #[]) (mvT hZ (hw _ (List.mem_of_getElem? (i := 116) rfl)))) (mvT hZ (hw _ (List.mem_of_getElem? (i := 116) rfl))) (mvT hZ (hw _ (List.mem_of_getElem? (i := 115) rfl))) (by decide) (backOf (W := 0) (rm_add0 l Z a0 hw [] al s0 dc kd (0 : Int32) T403.heap n0 Z0 (own_et O0 (own_ext K0)) hn0 ne_dc_al S_DC (V_dc.ext (own_et O0 (own_ext K0))) E_al F_modCount_al F_elementData_al F_size_al g_al E_s0) hZ (hw _ (List.mem_of_getElem? (i := 117) rfl)) (hw _ (List.mem_of_getElem? (i := 3) rfl)) (by decide) (by decide)) q405a q405c (g := (mkF m 41 #[.val (.int i0), .val (.int i1), .val (.int i2), .val (.int (2 : Int32)), .val (.int kk), .val (.ref al), .unset, .unset, .unset] [(.ref s0), (.ref al)])) rfl (by rw [hml]; rfl) (Steps.refl _) (argsL := [(.ref s0)]) (rest := []) (lenOf pdj__Ljava_lang_Object__Z rfl) rfl (by show 2 * 0 + _ ≤ _; exact Nat.le_of_eq rfl) (hb hby at_41) (fun _ _ => ⟨rfl, rfl, (by decide : 3 + 1 ≤ _), (by decide : 8 + 10 ≤ _)⟩)
      dsimp only [Pt.U, Pt.locs, Pt.cells, Pt.slots] at X405 l405 y405 z405 st405 hQ405
      subst l405 y405 z405
      obtain ⟨ea, ka, rfl, N405q, K405, sz405, E405, M405, D405, Sz405, g_ea, ne_al_ea, V405, EX405, O_ea⟩ := hQ405
      have sz_ea : h0.size ≤ ea := Nat.le_trans K0.1 sz405
      have K0 := K0.trans K405 (allS (Or.inr sz_al) all0)
      have Z0 := Nat.le_trans Z0 K405.1
      have E_al := E405
      have F_modCount_al := M405
      have F_elementData_al := D405
      have F_size_al := Sz405
      have V_ea := V405
      have E_ea := EX405
      have E_s0 := E_s0.keep K405
      have N405 := Fr.app N403 N405q
      have go406 : Go p e below T405 (mkF m 44 #[.val (.int i0), .val (.int i1), .val (.int i2), .val (.int (2 : Int32)), .val (.int kk), .val (.ref al), .unset, .unset, .unset] [(.int (1 : Int32))]) S0 := fun t kt => go404 t (st405.trans kt)
      have go407 : Go p e below T405 (mkF m 61 #[.val (.int i0), .val (.int i1), .val (.int i2), .val (.int (2 : Int32)), .val (.int kk), .val (.ref al), .unset, .unset, .unset] [(.int ((((i2.toUInt32 >>> ((8 : Int32) &&& 31).toUInt32).toInt32) &&& (255 : Int32)).toUInt32.toUInt16.toUInt32.toInt32)), (.ref al)]) S0 := by
        intro t kt
        refine go406 t ?_
        refine XS.pop X405.here hx rfl (hb hby at_44) rfl rfl ?_
        refine XS.iloadN X405.here hx rfl (hb hby at_45) rfl ?_
        refine XS.iconst X405.here hx rfl (hb hby at_46) ?_
        refine XS.icmpNo X405.here hx rfl (hb hby at_47) rfl (flt (by decide)).1 ?_
        refine XS.aload X405.here hx rfl (hb hby at_50) rfl rfl ?_
        refine XS.iloadN X405.here hx rfl (hb hby at_52) rfl ?_
        show Steps p.tables e below (T405.setTop (mkF m 53 #[.val (.int i0), .val (.int i1), .val (.int i2), .val (.int (2 : Int32)), .val (.int kk), .val (.ref al), .unset, .unset, .unset] [(.int i2), (.ref al)])) _
        refine XS.bipush X405.here hx rfl (hb hby at_53) ?_
        refine XS.iushr X405.here hx rfl (hb hby at_55) rfl ?_
        refine XS.sipush X405.here hx rfl (hb hby at_56) ?_
        refine XS.iand X405.here hx rfl (hb hby at_59) rfl ?_
        refine XS.i2c X405.here hx rfl (hb hby at_60) rfl ?_
        exact kt
      obtain ⟨_, _, ⟨T408, L408, k408, n408⟩, -, X408, ⟨Lc408, hQ408, l408, y408, z408⟩, st408⟩ := Jvm.LawKit.callS X405 hx (y := (⟨"java/lang/String", "valueOf", "(C)Ljava/lang/String;"⟩ : MethodName)) hown (mvT hZ (hw _ (List.mem_of_getElem? (i := 89) rfl))) (mvT hZ (hw _ (List.mem_of_getElem? (i := 90) rfl))) (mvT hZ (hw _ (List.mem_of_getElem? (i := 91) rfl))) (mvT hZ (hw _ (List.mem_of_getElem? (i := 92) rfl))) (by decide) (backOf (W := 1) (rm_valueOf l Z a0 hw [] ((((i2.toUInt32 >>> ((8 : Int32) &&& 31).toUInt32).toInt32) &&& (255 : Int32)).toUInt32.toUInt16.toUInt32.toInt32) zc T405.heap n0 Z0 (own_c _) P5 (S_CS.ext (own_et O0 (own_ext K0)))) hZ (hw _ (List.mem_of_getElem? (i := 92) rfl)) (hw _ (List.mem_of_getElem? (i := 91) rfl)) (by decide) (by decide)) (g := (mkF m 61 #[.val (.int i0), .val (.int i1), .val (.int i2), .val (.int (2 : Int32)), .val (.int kk), .val (.ref al), .unset, .unset, .unset] [(.int ((((i2.toUInt32 >>> ((8 : Int32) &&& 31).toUInt32).toInt32) &&& (255 : Int32)).toUInt32.toUInt16.toUInt32.toInt32)), (.ref al)])) rfl (by rw [hml]; rfl) (argsL := [(.int ((((i2.toUInt32 >>> ((8 : Int32) &&& 31).toUInt32).toInt32) &&& (255 : Int32)).toUInt32.toUInt16.toUInt32.toInt32))]) (rest := [(.ref al)]) (lenOf pdj__C_Ljava_lang_String_ rfl) rfl (by show 2 * 0 + _ ≤ _; exact Nat.le_of_eq rfl) (hb hby at_61) (fun _ _ => ⟨rfl, rfl, (by decide : 4 + 2 ≤ _), (by decide : 18 + 5 ≤ _)⟩)
      dsimp only [Pt.U, Pt.locs, Pt.cells, Pt.slots] at X408 l408 y408 z408 st408 hQ408
      subst l408 y408 z408
      obtain ⟨s1, rfl, N408q, E408, ES408⟩ := hQ408
      have E_al := E_al.ext E408
      have F_modCount_al := F_modCount_al.ext E408
      have F_elementData_al := F_elementData_al.ext E408
      have F_size_al := F_size_al.ext E408
      have V_ea := V_ea.ext E408
      have E_ea := E_ea.ext E408
      have E_s0 := E_s0.ext E408
      have Z0 := Nat.le_trans Z0 E408.1
      have K0 := K0.ext E408
      have N408 := Fr.app N405 N408q
      have go409 : Go p e below T408 (mkF m 64 #[.val (.int i0), .val (.int i1), .val (.int i2), .val (.int (2 : Int32)), .val (.int kk), .val (.ref al), .unset, .unset, .unset] [(.ref s1), (.ref al)]) S0 := fun t kt => go407 t (st408 _ kt)
      have E_s1 := ES408
      obtain ⟨cq410, kq410, q410a, q410b, q410c⟩ := isOf hZ rfl E_al
      obtain ⟨_, _, ⟨T410, L410, k410, n410⟩, -, X410, ⟨Lc410, hQ410, l410, y410, z410⟩, st410⟩ := X408.virtualBack hx (y := (⟨"java/util/ArrayList", "add", "(Ljava/lang/Object;)Z"⟩ : MethodName)) (z := (⟨"java/util/ArrayList", "add", "(Ljava/lang/Object;)Z"⟩ : MethodName)) hown (mvT hZ (hw _ (List.mem_of_getElem? (i := 113) rfl))) (mvT hZ (hw _ (List.mem_of_getElem? (i := 114) rfl))) (notFace_of_selects (args := #[]) (mvT hZ (hw _ (List.mem_of_getElem? (i := 116) rfl)))) (mvT hZ (hw _ (List.mem_of_getElem? (i := 116) rfl))) (mvT hZ (hw _ (List.mem_of_getElem? (i := 115) rfl))) (by decide) (backOf (W := 0) (rm_add1 l Z a0 hw [] al s1 ea ka s0 ((0 : Int32) + (1 : Int32)) T408.heap n0 Z0 E_al F_modCount_al F_elementData_al F_size_al g_al g_ea ne_al_ea V_ea E_ea O_ea E_s1) hZ (hw _ (List.mem_of_getElem? (i := 117) rfl)) (hw _ (List.mem_of_getElem? (i := 3) rfl)) (by decide) (by decide)) q410a q410c (g := (mkF m 64 #[.val (.int i0), .val (.int i1), .val (.int i2), .val (.int (2 : Int32)), .val (.int kk), .val (.ref al), .unset, .unset, .unset] [(.ref s1), (.ref al)])) rfl (by rw [hml]; rfl) (Steps.refl _) (argsL := [(.ref s1)]) (rest := []) (lenOf pdj__Ljava_lang_Object__Z rfl) rfl (by show 2 * 0 + _ ≤ _; exact Nat.le_of_eq rfl) (hb hby at_64) (fun _ _ => ⟨rfl, rfl, (by decide : 6 + 0 ≤ _), (by decide : 23 + 0 ≤ _)⟩)
      dsimp only [Pt.U, Pt.locs, Pt.cells, Pt.slots] at X410 l410 y410 z410 st410 hQ410
      subst l410 y410 z410
      obtain ⟨rfl, N410q, K410, E410, M410, D410, Sz410, V410, EX410⟩ := hQ410
      have K0 := K0.trans K410 (allS (Or.inr sz_al) (allS (Or.inr sz_ea) all0))
      have Z0 := Nat.le_trans Z0 K410.1
      have E_al := E410
      have F_modCount_al := M410
      have F_elementData_al := D410
      have F_size_al := Sz410
      have V_ea := V410
      have E_ea := EX410
      have E_s0 := E_s0.keep K410
      have E_s1 := E_s1.keep K410
      have N410 := Fr.app N408 N410q
      have go411 : Go p e below T410 (mkF m 67 #[.val (.int i0), .val (.int i1), .val (.int i2), .val (.int (2 : Int32)), .val (.int kk), .val (.ref al), .unset, .unset, .unset] [(.int (1 : Int32))]) S0 := fun t kt => go409 t (st410.trans kt)
      have go412 : Go p e below T410 (mkF m 91 #[.val (.int i0), .val (.int i1), .val (.int i2), .val (.int (2 : Int32)), .val (.int kk), .val (.ref al), .unset, .unset, .unset] []) S0 := by
        intro t kt
        refine go411 t ?_
        refine XS.pop X410.here hx rfl (hb hby at_67) rfl rfl ?_
        refine XS.iloadN X410.here hx rfl (hb hby at_68) rfl ?_
        refine XS.iconst X410.here hx rfl (hb hby at_69) ?_
        refine XS.icmpYes X410.here hx rfl (pc0 := 70) (pc' := 91) rfl (hb hby at_70) rfl (tlt (by decide)).1 (by decide) (by decide) ?_
        exact kt
      obtain ⟨T413, h413, X413, e413, E413, A413, D413, -, st413⟩ := newO X410 hx hZ hown (hw _ (List.mem_of_getElem? (i := 27) rfl)) (hw _ (List.mem_of_getElem? (i := 28) rfl)) (hw _ (List.mem_of_getElem? (i := 29) rfl)) rfl (g := (mkF m 91 #[.val (.int i0), .val (.int i1), .val (.int i2), .val (.int (2 : Int32)), .val (.int kk), .val (.ref al), .unset, .unset, .unset] [])) rfl (hb hby at_91) (by decide) (by decide)
      obtain ⟨fn, g413⟩ : ∃ z, z = T410.heap.size := ⟨_, rfl⟩
      rw [← g413] at A413 D413 st413
      have g_fn : n0 ≤ fn := Nat.le_trans Z0 (Nat.le_of_eq g413.symm)
      have sz_fn : h0.size ≤ fn := Nat.le_trans K0.1 (Nat.le_of_eq g413.symm)
      have E_al := E_al.ext E413
      have F_modCount_al := F_modCount_al.ext E413
      have F_elementData_al := F_elementData_al.ext E413
      have F_size_al := F_size_al.ext E413
      have V_ea := V_ea.ext E413
      have E_ea := E_ea.ext E413
      have E_s0 := E_s0.ext E413
      have E_s1 := E_s1.ext E413
      have Z0 := Nat.le_trans Z0 E413.1
      have K0 := K0.ext E413
      have go414 : Go p e below T413 (mkF m 94 #[.val (.int i0), .val (.int i1), .val (.int i2), .val (.int (2 : Int32)), .val (.int kk), .val (.ref al), .unset, .unset, .unset] [(.ref fn)]) S0 := fun t kt => go412 t (st413 _ kt)
      have E_fn := A413
      have F_names_fn : Fld Z h413 fn "com/example/tinlet/tinlet/deploy/descriptor/FragmentNames" "names" "Ljava/util/List;" .null := D413 (Or.inr (hw _ (List.mem_of_getElem? (i := 64) rfl))) (ty := (.object "java/util/List")) (by decide)
      have F_othersAt_fn : Fld Z h413 fn "com/example/tinlet/tinlet/deploy/descriptor/FragmentNames" "othersAt" "I" (.int (0 : Int32)) := D413 (Or.inr (hw _ (List.mem_of_getElem? (i := 66) rfl))) (ty := .int) (by decide)
      obtain ⟨g, gz, c12, cN, hgn, hP⟩ := own_pall Z (own_U Z h413) (State.Warmed39.refl Z : Z.Warmed39 (own_U Z h413).vm) hw hm (n := 2) E_al F_elementData_al F_size_al F_modCount_al V_ea E_ea (by decide) (by decide) (by decide) (fun v hv => by simp only [List.mem_cons, List.not_mem_nil, or_false] at hv; rcases hv with rfl | rfl | rfl | rfl | rfl | rfl | rfl | rfl | rfl | rfl <;> first | exact Or.inl rfl | exact Or.inr ⟨_, rfl, E_s0⟩ | exact Or.inr ⟨_, rfl, E_s1⟩) (fun i hi => by rcases (by omega : i = 0 ∨ i = 1) with rfl | rfl <;> simp) (S_em.ext (own_et O0 (own_ext K0))) (S_el.ext (own_et O0 (own_ext K0)))
      have go415 : Go p e below T413 (mkF m 99 #[.val (.int i0), .val (.int i1), .val (.int i2), .val (.int (2 : Int32)), .val (.int kk), .val (.ref al), .unset, .unset, .unset] [(.int kk), (.ref al), (.ref fn), (.ref fn)]) S0 := by
        intro t kt
        refine go414 t ?_
        refine XS.dup X413.here hx rfl (hb hby at_94) rfl rfl ?_
        refine XS.aload X413.here hx rfl (hb hby at_95) rfl rfl ?_
        refine XS.iload X413.here hx rfl (hb hby at_97) rfl ?_
        exact kt
      obtain ⟨_, _, ⟨T416, L416, k416, n416⟩, -, X416, ⟨Lc416, hQ416, l416, y416, z416⟩, st416⟩ := X413.specialBack hx (y := (⟨"com/example/tinlet/tinlet/deploy/descriptor/FragmentNames", "<init>", "(Ljava/util/List;I)V"⟩ : MethodName)) rfl hown (mvT hZ (hw _ (List.mem_of_getElem? (i := 30) rfl))) (mvT hZ (hw _ (List.mem_of_getElem? (i := 31) rfl))) (mvT hZ (hw _ (List.mem_of_getElem? (i := 32) rfl))) (by decide) (backOf (W := 1) (rm_fninit l Z a0 hw [] fn al kk g gz c12 cN em el h413 n0 Z0 E_fn F_names_fn F_othersAt_fn g_fn hP) hZ (hw _ (List.mem_of_getElem? (i := 32) rfl)) (hw _ (List.mem_of_getElem? (i := 29) rfl)) (by decide) (by decide)) (g := (mkF m 99 #[.val (.int i0), .val (.int i1), .val (.int i2), .val (.int (2 : Int32)), .val (.int kk), .val (.ref al), .unset, .unset, .unset] [(.int kk), (.ref al), (.ref fn), (.ref fn)])) rfl (by rw [hml]; rfl) (Steps.refl _) (a := fn) (argsL := [(.ref al), (.int kk)]) (rest := [(.ref fn)]) (lenOf pdj__Ljava_util_List_I_V rfl) rfl (by show 2 * 0 + _ ≤ _; exact Nat.le_of_eq rfl) (hb hby at_99) (fun _ _ => ⟨rfl, e413, (by decide : 7 + 3 ≤ _), (by decide : 25 + 8 ≤ _)⟩)
      dsimp only [Pt.U, Pt.locs, Pt.cells, Pt.slots] at X416 l416 y416 z416 st416 hQ416
      subst l416 y416 z416
      obtain ⟨rfl, N416q, K416, E416, FO416, r, FN416, hr⟩ := hQ416
      have K0 := K0.trans K416 (allS (Or.inr sz_fn) all0)
      have Z0 := Nat.le_trans Z0 K416.1
      have E_fn := E416
      have F_othersAt_fn := FO416
      have F_names_fn := FN416
      have N416 := Fr.app N410 N416q
      have go417 : Go p e below T416 (mkF m 102 #[.val (.int i0), .val (.int i1), .val (.int i2), .val (.int (2 : Int32)), .val (.int kk), .val (.ref al), .unset, .unset, .unset] [(.ref fn)]) S0 := fun t kt => go415 t (st416.trans kt)
      have go418 : Go p e below T416 (mkF m 106 #[.val (.int i0), .val (.int i1), .val (.int i2), .val (.int (2 : Int32)), .val (.int kk), .val (.ref al), .val (.ref fn), .unset, .unset] [(.ref fn)]) S0 := by
        intro t kt
        refine go417 t ?_
        refine XS.astore X416.here hx rfl (hb hby at_102) rfl rfl (l' := #[.val (.int i0), .val (.int i1), .val (.int i2), .val (.int (2 : Int32)), .val (.int kk), .val (.ref al), .val (.ref fn), .unset, .unset]) rfl ?_
        refine XS.aload X416.here hx rfl (hb hby at_104) rfl rfl ?_
        exact kt
      obtain ⟨cq419, kq419, q419a, q419b, q419c⟩ := isOf hZ rfl E_fn
      obtain ⟨_, _, ⟨T419, L419, k419, n419⟩, -, X419, ⟨Lc419, hQ419, l419, y419, z419⟩, st419⟩ := X416.virtualBack hx (y := (⟨"com/example/tinlet/tinlet/deploy/descriptor/FragmentNames", "hasOthers", "()Z"⟩ : MethodName)) (z := (⟨"com/example/tinlet/tinlet/deploy/descriptor/FragmentNames", "hasOthers", "()Z"⟩ : MethodName)) hown (mvT hZ (hw _ (List.mem_of_getElem? (i := 67) rfl))) (mvT hZ (hw _ (List.mem_of_getElem? (i := 68) rfl))) (notFace_of_selects (args := #[]) (mvT hZ (hw _ (List.mem_of_getElem? (i := 70) rfl)))) (mvT hZ (hw _ (List.mem_of_getElem? (i := 70) rfl))) (mvT hZ (hw _ (List.mem_of_getElem? (i := 69) rfl))) (by decide) (backOf (W := 0) (rm_hasOthersY l Z a0 hw [] fn kk T416.heap n0 Z0 hk0 F_othersAt_fn) hZ (hw _ (List.mem_of_getElem? (i := 71) rfl)) (hw _ (List.mem_of_getElem? (i := 29) rfl)) (by decide) (by decide)) q419a q419c (g := (mkF m 106 #[.val (.int i0), .val (.int i1), .val (.int i2), .val (.int (2 : Int32)), .val (.int kk), .val (.ref al), .val (.ref fn), .unset, .unset] [(.ref fn)])) rfl (by rw [hml]; rfl) (Steps.refl _) (argsL := []) (rest := []) (lenOf pdj___Z rfl) rfl (by show 2 * 0 + _ ≤ _; exact Nat.le_of_eq rfl) (hb hby at_106) (fun _ _ => ⟨rfl, rfl, (by decide : 10 + 0 ≤ _), (by decide : 33 + 0 ≤ _)⟩)
      dsimp only [Pt.U, Pt.locs, Pt.cells, Pt.slots] at X419 l419 y419 z419 st419 hQ419
      subst l419 y419 z419
      obtain ⟨rfl, N419q, g419⟩ := hQ419
      have K0 := own_ks g419 K0
      rw [← g419] at E_fn F_othersAt_fn F_names_fn Z0
      have N419 := Fr.app N416 N419q
      have go420 : Go p e below T419 (mkF m 109 #[.val (.int i0), .val (.int i1), .val (.int i2), .val (.int (2 : Int32)), .val (.int kk), .val (.ref al), .val (.ref fn), .unset, .unset] [(.int (1 : Int32))]) S0 := fun t kt => go418 t (st419.trans kt)
      have go421 : Go p e below T419 (mkF m 162 #[.val (.int i0), .val (.int i1), .val (.int i2), .val (.int (2 : Int32)), .val (.int kk), .val (.ref al), .val (.ref fn), .val (.int (1 : Int32)), .val (.int (1 : Int32))] [(.int (1 : Int32))]) S0 := by
        intro t kt
        refine go420 t ?_
        refine XS.istore X419.here hx rfl (hb hby at_109) rfl (l' := #[.val (.int i0), .val (.int i1), .val (.int i2), .val (.int (2 : Int32)), .val (.int kk), .val (.ref al), .val (.ref fn), .val (.int (1 : Int32)), .unset]) rfl ?_
        refine XS.iload X419.here hx rfl (hb hby at_111) rfl ?_
        refine XS.iconst X419.here hx rfl (hb hby at_113) ?_
        refine XS.icmpNo X419.here hx rfl (hb hby at_114) rfl (feq hkm).1 ?_
        refine XS.iconst X419.here hx rfl (hb hby at_117) ?_
        refine XS.goto X419.here hx rfl (pc0 := 118) (pc' := 122) rfl (hb hby at_118) (by decide) (by decide) ?_
        show Steps p.tables e below (T419.setTop (mkF m 122 #[.val (.int i0), .val (.int i1), .val (.int i2), .val (.int (2 : Int32)), .val (.int kk), .val (.ref al), .val (.ref fn), .val (.int (1 : Int32)), .unset] [(.int (1 : Int32))])) _
        refine XS.istore X419.here hx rfl (hb hby at_122) rfl (l' := #[.val (.int i0), .val (.int i1), .val (.int i2), .val (.int (2 : Int32)), .val (.int kk), .val (.ref al), .val (.ref fn), .val (.int (1 : Int32)), .val (.int (1 : Int32))]) rfl ?_
        refine XS.iload X419.here hx rfl (hb hby at_124) rfl ?_
        refine XS.iload X419.here hx rfl (hb hby at_126) rfl ?_
        refine XS.icmpYes X419.here hx rfl (pc0 := 128) (pc' := 133) rfl (hb hby at_128) rfl (teq rfl).1 (by decide) (by decide) ?_
        refine XS.iloadN X419.here hx rfl (hb hby at_133) rfl ?_
        refine XS.ifYes X419.here hx rfl (pc0 := 134) (pc' := 161) rfl (hb hby at_134) rfl ((if0 _ _).trans (feq (by decide)).2) (by decide) (by decide) ?_
        show Steps p.tables e below (T419.setTop (mkF m 161 #[.val (.int i0), .val (.int i1), .val (.int i2), .val (.int (2 : Int32)), .val (.int kk), .val (.ref al), .val (.ref fn), .val (.int (1 : Int32)), .val (.int (1 : Int32))] [])) _
        refine XS.iconst X419.here hx rfl (hb hby at_161) ?_
        exact kt
      obtain ⟨fs, hr, hrun, hended, hW, hsame⟩ := X419.leave (v := some (.int (1 : Int32))) (fun h => by rw [Bd.returns] at h; cases h)
      refine ⟨_, _, go421 _ ?_, hrun, hended, _, _, rfl, ?_, ⟨_, rfl⟩, hW, hsame.mono (by decide) (by decide)⟩
      · show Steps p.tables e below (T419.setTop (mkF m 162 #[.val (.int i0), .val (.int i1), .val (.int i2), .val (.int (2 : Int32)), .val (.int kk), .val (.ref al), .val (.ref fn), .val (.int (1 : Int32)), .val (.int (1 : Int32))] [(.int (1 : Int32))])) _
        exact retN X419 hx (t := .boolean) Bd.returns (by simp) (hb hby at_162) hr
      · show Q_rm0 Z i0 i1 i2 zc dc kd em el ee ke h0 n0 _ T419.heap _
        exact ⟨rfl, N419⟩
  · have go422 : Go p e below s₁ (mkF m 4 #[.val (.int i0), .val (.int i1), .val (.int i2), .val (.int (3 : Int32)), .unset, .unset, .unset, .unset, .unset] []) S0 := by have q := go286; rw [hn] at q; exact q
    have go423 : Go p e below s₁ (mkF m 16 #[.val (.int i0), .val (.int i1), .val (.int i2), .val (.int (3 : Int32)), .val (.int (((i1 &&& (2147483647 : Int32)) - ((i1 &&& (2147483647 : Int32)) / (5 : Int32)) * (5 : Int32)) - (1 : Int32))), .unset, .unset, .unset, .unset] []) S0 := by
      intro t kt
      refine go422 t ?_
      refine XS.iloadN X0.here hx rfl (hb hby at_4) rfl ?_
      refine X0.ldcInt hx hown (mvT hZ (hw _ (List.mem_of_getElem? (i := 0) rfl))) (g := (mkF m 5 #[.val (.int i0), .val (.int i1), .val (.int i2), .val (.int (3 : Int32)), .unset, .unset, .unset, .unset, .unset] [(.int i1)])) rfl (hb hby at_5) _ ?_
      refine XS.iand X0.here hx rfl (hb hby at_7) rfl ?_
      refine XS.iloadN X0.here hx rfl (hb hby at_8) rfl ?_
      refine XS.iconst X0.here hx rfl (hb hby at_9) ?_
      refine XS.iadd X0.here hx rfl (hb hby at_10) rfl ?_
      show Steps p.tables e below (s₁.setTop (mkF m 11 #[.val (.int i0), .val (.int i1), .val (.int i2), .val (.int (3 : Int32)), .unset, .unset, .unset, .unset, .unset] [(.int (5 : Int32)), (.int (i1 &&& (2147483647 : Int32)))])) _
      refine XS.irem X0.here hx rfl (hb hby at_11) rfl (by decide) ?_
      refine XS.iconst X0.here hx rfl (hb hby at_12) ?_
      refine XS.isub X0.here hx rfl (hb hby at_13) rfl ?_
      refine XS.istore X0.here hx rfl (hb hby at_14) rfl (l' := #[.val (.int i0), .val (.int i1), .val (.int i2), .val (.int (3 : Int32)), .val (.int (((i1 &&& (2147483647 : Int32)) - ((i1 &&& (2147483647 : Int32)) / (5 : Int32)) * (5 : Int32)) - (1 : Int32))), .unset, .unset, .unset, .unset]) rfl ?_
      exact kt
    obtain ⟨kk, hkk⟩ : ∃ z : Int32, z = (((i1 &&& (2147483647 : Int32)) - ((i1 &&& (2147483647 : Int32)) / (5 : Int32)) * (5 : Int32)) - (1 : Int32)) := ⟨_, rfl⟩
    have go424 : Go p e below s₁ (mkF m 16 #[.val (.int i0), .val (.int i1), .val (.int i2), .val (.int (3 : Int32)), .val (.int kk), .unset, .unset, .unset, .unset] []) S0 := by rw [hkk]; exact go423
    have hkl := own_k i1 (5 : Int32) kk (by decide) hkk
    by_cases hk0 : kk < (0 : Int32)
    · have hkm := hkl hk0
      obtain ⟨T425, h425, X425, e425, E425, A425, D425, -, st425⟩ := newO X0 hx hZ hown (hw _ (List.mem_of_getElem? (i := 1) rfl)) (hw _ (List.mem_of_getElem? (i := 2) rfl)) (hw _ (List.mem_of_getElem? (i := 3) rfl)) e0 (g := (mkF m 16 #[.val (.int i0), .val (.int i1), .val (.int i2), .val (.int (3 : Int32)), .val (.int kk), .unset, .unset, .unset, .unset] [])) rfl (hb hby at_16) (by decide) (by decide)
      obtain ⟨al, g425⟩ : ∃ z, z = h0.size := ⟨_, rfl⟩
      rw [← g425] at A425 D425 st425
      have g_al : n0 ≤ al := Nat.le_trans Z0 (Nat.le_of_eq g425.symm)
      have sz_al : h0.size ≤ al := Nat.le_trans K0.1 (Nat.le_of_eq g425.symm)
      have Z0 := Nat.le_trans Z0 E425.1
      have K0 := K0.ext E425
      have go426 : Go p e below T425 (mkF m 19 #[.val (.int i0), .val (.int i1), .val (.int i2), .val (.int (3 : Int32)), .val (.int kk), .unset, .unset, .unset, .unset] [(.ref al)]) S0 := fun t kt => go424 t (st425 _ kt)
      have E_al := A425
      have F_modCount_al : Fld Z h425 al "java/util/AbstractList" "modCount" "I" (.int (0 : Int32)) := D425 (Or.inl (hw _ (List.mem_of_getElem? (i := 23) rfl))) (ty := .int) (by decide)
      have F_elementData_al : Fld Z h425 al "java/util/ArrayList" "elementData" "[Ljava/lang/Object;" .null := D425 (Or.inl (hw _ (List.mem_of_getElem? (i := 26) rfl))) (ty := (.array (.object "java/lang/Object"))) (by decide)
      have F_size_al : Fld Z h425 al "java/util/ArrayList" "size" "I" (.int (0 : Int32)) := D425 (Or.inl (hw _ (List.mem_of_getElem? (i := 58) rfl))) (ty := .int) (by decide)
      have ne_dc_al : dc ≠ al := fun q => absurd (Nat.lt_of_lt_of_le V_dc.lt hn0) (Nat.not_lt.mpr (q ▸ g_al))
      have go427 : Go p e below T425 (mkF m 20 #[.val (.int i0), .val (.int i1), .val (.int i2), .val (.int (3 : Int32)), .val (.int kk), .unset, .unset, .unset, .unset] [(.ref al), (.ref al)]) S0 := by
        intro t kt
        refine go426 t ?_
        refine XS.dup X425.here hx rfl (hb hby at_19) rfl rfl ?_
        exact kt
      obtain ⟨_, _, ⟨T428, L428, k428, n428⟩, -, X428, ⟨Lc428, hQ428, l428, y428, z428⟩, st428⟩ := X425.specialBack hx (y := (⟨"java/util/ArrayList", "<init>", "()V"⟩ : MethodName)) rfl hown (mvT hZ (hw _ (List.mem_of_getElem? (i := 4) rfl))) (mvT hZ (hw _ (List.mem_of_getElem? (i := 5) rfl))) (mvT hZ (hw _ (List.mem_of_getElem? (i := 6) rfl))) (by decide) (backOf (W := 1) (rm_alinit l Z a0 hw [] al dc h425 n0 Z0 (own_et O0 (own_ext K0)) hn0 S_DC E_al F_modCount_al F_elementData_al F_size_al g_al) hZ (hw _ (List.mem_of_getElem? (i := 6) rfl)) (hw _ (List.mem_of_getElem? (i := 3) rfl)) (by decide) (by decide)) (g := (mkF m 20 #[.val (.int i0), .val (.int i1), .val (.int i2), .val (.int (3 : Int32)), .val (.int kk), .unset, .unset, .unset, .unset] [(.ref al), (.ref al)])) rfl (by rw [hml]; rfl) (Steps.refl _) (a := al) (argsL := []) (rest := [(.ref al)]) (lenOf pdj___V rfl) rfl (by show 2 * 0 + _ ≤ _; exact Nat.le_of_eq rfl) (hb hby at_20) (fun _ _ => ⟨rfl, e425, (by decide : 1 + 0 ≤ _), (by decide : 3 + 0 ≤ _)⟩)
      dsimp only [Pt.U, Pt.locs, Pt.cells, Pt.slots] at X428 l428 y428 z428 st428 hQ428
      subst l428 y428 z428
      obtain ⟨rfl, N428q, K428, E428, M428, D428, Sz428⟩ := hQ428
      have K0 := K0.trans K428 (allS (Or.inr sz_al) all0)
      have Z0 := Nat.le_trans Z0 K428.1
      have E_al := E428
      have F_modCount_al := M428
      have F_elementData_al := D428
      have F_size_al := Sz428
      have N428 := Fr.app N0 N428q
      have go429 : Go p e below T428 (mkF m 23 #[.val (.int i0), .val (.int i1), .val (.int i2), .val (.int (3 : Int32)), .val (.int kk), .unset, .unset, .unset, .unset] [(.ref al)]) S0 := fun t kt => go427 t (st428.trans kt)
      have go430 : Go p e below T428 (mkF m 38 #[.val (.int i0), .val (.int i1), .val (.int i2), .val (.int (3 : Int32)), .val (.int kk), .val (.ref al), .unset, .unset, .unset] [(.int ((i2 &&& (255 : Int32)).toUInt32.toUInt16.toUInt32.toInt32)), (.ref al)]) S0 := by
        intro t kt
        refine go429 t ?_
        refine XS.astore X428.here hx rfl (hb hby at_23) rfl rfl (l' := #[.val (.int i0), .val (.int i1), .val (.int i2), .val (.int (3 : Int32)), .val (.int kk), .val (.ref al), .unset, .unset, .unset]) rfl ?_
        refine XS.iloadN X428.here hx rfl (hb hby at_25) rfl ?_
        refine XS.iconst X428.here hx rfl (hb hby at_26) ?_
        refine XS.icmpNo X428.here hx rfl (hb hby at_27) rfl (flt (by decide)).1 ?_
        refine XS.aload X428.here hx rfl (hb hby at_30) rfl rfl ?_
        refine XS.iloadN X428.here hx rfl (hb hby at_32) rfl ?_
        show Steps p.tables e below (T428.setTop (mkF m 33 #[.val (.int i0), .val (.int i1), .val (.int i2), .val (.int (3 : Int32)), .val (.int kk), .val (.ref al), .unset, .unset, .unset] [(.int i2), (.ref al)])) _
        refine XS.sipush X428.here hx rfl (hb hby at_33) ?_
        refine XS.iand X428.here hx rfl (hb hby at_36) rfl ?_
        refine XS.i2c X428.here hx rfl (hb hby at_37) rfl ?_
        exact kt
      obtain ⟨_, _, ⟨T431, L431, k431, n431⟩, -, X431, ⟨Lc431, hQ431, l431, y431, z431⟩, st431⟩ := Jvm.LawKit.callS X428 hx (y := (⟨"java/lang/String", "valueOf", "(C)Ljava/lang/String;"⟩ : MethodName)) hown (mvT hZ (hw _ (List.mem_of_getElem? (i := 89) rfl))) (mvT hZ (hw _ (List.mem_of_getElem? (i := 90) rfl))) (mvT hZ (hw _ (List.mem_of_getElem? (i := 91) rfl))) (mvT hZ (hw _ (List.mem_of_getElem? (i := 92) rfl))) (by decide) (backOf (W := 1) (rm_valueOf l Z a0 hw [] ((i2 &&& (255 : Int32)).toUInt32.toUInt16.toUInt32.toInt32) zc T428.heap n0 Z0 (own_c _) P5 (S_CS.ext (own_et O0 (own_ext K0)))) hZ (hw _ (List.mem_of_getElem? (i := 92) rfl)) (hw _ (List.mem_of_getElem? (i := 91) rfl)) (by decide) (by decide)) (g := (mkF m 38 #[.val (.int i0), .val (.int i1), .val (.int i2), .val (.int (3 : Int32)), .val (.int kk), .val (.ref al), .unset, .unset, .unset] [(.int ((i2 &&& (255 : Int32)).toUInt32.toUInt16.toUInt32.toInt32)), (.ref al)])) rfl (by rw [hml]; rfl) (argsL := [(.int ((i2 &&& (255 : Int32)).toUInt32.toUInt16.toUInt32.toInt32))]) (rest := [(.ref al)]) (lenOf pdj__C_Ljava_lang_String_ rfl) rfl (by show 2 * 0 + _ ≤ _; exact Nat.le_of_eq rfl) (hb hby at_38) (fun _ _ => ⟨rfl, rfl, (by decide : 1 + 2 ≤ _), (by decide : 3 + 5 ≤ _)⟩)
      dsimp only [Pt.U, Pt.locs, Pt.cells, Pt.slots] at X431 l431 y431 z431 st431 hQ431
      subst l431 y431 z431
      obtain ⟨s0, rfl, N431q, E431, ES431⟩ := hQ431
      have E_al := E_al.ext E431
      have F_modCount_al := F_modCount_al.ext E431
      have F_elementData_al := F_elementData_al.ext E431
      have F_size_al := F_size_al.ext E431
      have Z0 := Nat.le_trans Z0 E431.1
      have K0 := K0.ext E431
      have N431 := Fr.app N428 N431q
      have go432 : Go p e below T431 (mkF m 41 #[.val (.int i0), .val (.int i1), .val (.int i2), .val (.int (3 : Int32)), .val (.int kk), .val (.ref al), .unset, .unset, .unset] [(.ref s0), (.ref al)]) S0 := fun t kt => go430 t (st431 _ kt)
      have E_s0 := ES431
      obtain ⟨cq433, kq433, q433a, q433b, q433c⟩ := isOf hZ rfl E_al
      obtain ⟨_, _, ⟨T433, L433, k433, n433⟩, -, X433, ⟨Lc433, hQ433, l433, y433, z433⟩, st433⟩ := X431.virtualBack hx (y := (⟨"java/util/ArrayList", "add", "(Ljava/lang/Object;)Z"⟩ : MethodName)) (z := (⟨"java/util/ArrayList", "add", "(Ljava/lang/Object;)Z"⟩ : MethodName)) hown (mvT hZ (hw _ (List.mem_of_getElem? (i := 113) rfl))) (mvT hZ (hw _ (List.mem_of_getElem? (i := 114) rfl))) (notFace_of_selects (args := #[]) (mvT hZ (hw _ (List.mem_of_getElem? (i := 116) rfl)))) (mvT hZ (hw _ (List.mem_of_getElem? (i := 116) rfl))) (mvT hZ (hw _ (List.mem_of_getElem? (i := 115) rfl))) (by decide) (backOf (W := 0) (rm_add0 l Z a0 hw [] al s0 dc kd (0 : Int32) T431.heap n0 Z0 (own_et O0 (own_ext K0)) hn0 ne_dc_al S_DC (V_dc.ext (own_et O0 (own_ext K0))) E_al F_modCount_al F_elementData_al F_size_al g_al E_s0) hZ (hw _ (List.mem_of_getElem? (i := 117) rfl)) (hw _ (List.mem_of_getElem? (i := 3) rfl)) (by decide) (by decide)) q433a q433c (g := (mkF m 41 #[.val (.int i0), .val (.int i1), .val (.int i2), .val (.int (3 : Int32)), .val (.int kk), .val (.ref al), .unset, .unset, .unset] [(.ref s0), (.ref al)])) rfl (by rw [hml]; rfl) (Steps.refl _) (argsL := [(.ref s0)]) (rest := []) (lenOf pdj__Ljava_lang_Object__Z rfl) rfl (by show 2 * 0 + _ ≤ _; exact Nat.le_of_eq rfl) (hb hby at_41) (fun _ _ => ⟨rfl, rfl, (by decide : 3 + 1 ≤ _), (by decide : 8 + 10 ≤ _)⟩)
      dsimp only [Pt.U, Pt.locs, Pt.cells, Pt.slots] at X433 l433 y433 z433 st433 hQ433
      subst l433 y433 z433
      obtain ⟨ea, ka, rfl, N433q, K433, sz433, E433, M433, D433, Sz433, g_ea, ne_al_ea, V433, EX433, O_ea⟩ := hQ433
      have sz_ea : h0.size ≤ ea := Nat.le_trans K0.1 sz433
      have K0 := K0.trans K433 (allS (Or.inr sz_al) all0)
      have Z0 := Nat.le_trans Z0 K433.1
      have E_al := E433
      have F_modCount_al := M433
      have F_elementData_al := D433
      have F_size_al := Sz433
      have V_ea := V433
      have E_ea := EX433
      have E_s0 := E_s0.keep K433
      have N433 := Fr.app N431 N433q
      have go434 : Go p e below T433 (mkF m 44 #[.val (.int i0), .val (.int i1), .val (.int i2), .val (.int (3 : Int32)), .val (.int kk), .val (.ref al), .unset, .unset, .unset] [(.int (1 : Int32))]) S0 := fun t kt => go432 t (st433.trans kt)
      have go435 : Go p e below T433 (mkF m 61 #[.val (.int i0), .val (.int i1), .val (.int i2), .val (.int (3 : Int32)), .val (.int kk), .val (.ref al), .unset, .unset, .unset] [(.int ((((i2.toUInt32 >>> ((8 : Int32) &&& 31).toUInt32).toInt32) &&& (255 : Int32)).toUInt32.toUInt16.toUInt32.toInt32)), (.ref al)]) S0 := by
        intro t kt
        refine go434 t ?_
        refine XS.pop X433.here hx rfl (hb hby at_44) rfl rfl ?_
        refine XS.iloadN X433.here hx rfl (hb hby at_45) rfl ?_
        refine XS.iconst X433.here hx rfl (hb hby at_46) ?_
        refine XS.icmpNo X433.here hx rfl (hb hby at_47) rfl (flt (by decide)).1 ?_
        refine XS.aload X433.here hx rfl (hb hby at_50) rfl rfl ?_
        refine XS.iloadN X433.here hx rfl (hb hby at_52) rfl ?_
        show Steps p.tables e below (T433.setTop (mkF m 53 #[.val (.int i0), .val (.int i1), .val (.int i2), .val (.int (3 : Int32)), .val (.int kk), .val (.ref al), .unset, .unset, .unset] [(.int i2), (.ref al)])) _
        refine XS.bipush X433.here hx rfl (hb hby at_53) ?_
        refine XS.iushr X433.here hx rfl (hb hby at_55) rfl ?_
        refine XS.sipush X433.here hx rfl (hb hby at_56) ?_
        refine XS.iand X433.here hx rfl (hb hby at_59) rfl ?_
        refine XS.i2c X433.here hx rfl (hb hby at_60) rfl ?_
        exact kt
      obtain ⟨_, _, ⟨T436, L436, k436, n436⟩, -, X436, ⟨Lc436, hQ436, l436, y436, z436⟩, st436⟩ := Jvm.LawKit.callS X433 hx (y := (⟨"java/lang/String", "valueOf", "(C)Ljava/lang/String;"⟩ : MethodName)) hown (mvT hZ (hw _ (List.mem_of_getElem? (i := 89) rfl))) (mvT hZ (hw _ (List.mem_of_getElem? (i := 90) rfl))) (mvT hZ (hw _ (List.mem_of_getElem? (i := 91) rfl))) (mvT hZ (hw _ (List.mem_of_getElem? (i := 92) rfl))) (by decide) (backOf (W := 1) (rm_valueOf l Z a0 hw [] ((((i2.toUInt32 >>> ((8 : Int32) &&& 31).toUInt32).toInt32) &&& (255 : Int32)).toUInt32.toUInt16.toUInt32.toInt32) zc T433.heap n0 Z0 (own_c _) P5 (S_CS.ext (own_et O0 (own_ext K0)))) hZ (hw _ (List.mem_of_getElem? (i := 92) rfl)) (hw _ (List.mem_of_getElem? (i := 91) rfl)) (by decide) (by decide)) (g := (mkF m 61 #[.val (.int i0), .val (.int i1), .val (.int i2), .val (.int (3 : Int32)), .val (.int kk), .val (.ref al), .unset, .unset, .unset] [(.int ((((i2.toUInt32 >>> ((8 : Int32) &&& 31).toUInt32).toInt32) &&& (255 : Int32)).toUInt32.toUInt16.toUInt32.toInt32)), (.ref al)])) rfl (by rw [hml]; rfl) (argsL := [(.int ((((i2.toUInt32 >>> ((8 : Int32) &&& 31).toUInt32).toInt32) &&& (255 : Int32)).toUInt32.toUInt16.toUInt32.toInt32))]) (rest := [(.ref al)]) (lenOf pdj__C_Ljava_lang_String_ rfl) rfl (by show 2 * 0 + _ ≤ _; exact Nat.le_of_eq rfl) (hb hby at_61) (fun _ _ => ⟨rfl, rfl, (by decide : 4 + 2 ≤ _), (by decide : 18 + 5 ≤ _)⟩)
      dsimp only [Pt.U, Pt.locs, Pt.cells, Pt.slots] at X436 l436 y436 z436 st436 hQ436
      subst l436 y436 z436
      obtain ⟨s1, rfl, N436q, E436, ES436⟩ := hQ436
      have E_al := E_al.ext E436
      have F_modCount_al := F_modCount_al.ext E436
      have F_elementData_al := F_elementData_al.ext E436
      have F_size_al := F_size_al.ext E436
      have V_ea := V_ea.ext E436
      have E_ea := E_ea.ext E436
      have E_s0 := E_s0.ext E436
      have Z0 := Nat.le_trans Z0 E436.1
      have K0 := K0.ext E436
      have N436 := Fr.app N433 N436q
      have go437 : Go p e below T436 (mkF m 64 #[.val (.int i0), .val (.int i1), .val (.int i2), .val (.int (3 : Int32)), .val (.int kk), .val (.ref al), .unset, .unset, .unset] [(.ref s1), (.ref al)]) S0 := fun t kt => go435 t (st436 _ kt)
      have E_s1 := ES436
      obtain ⟨cq438, kq438, q438a, q438b, q438c⟩ := isOf hZ rfl E_al
      obtain ⟨_, _, ⟨T438, L438, k438, n438⟩, -, X438, ⟨Lc438, hQ438, l438, y438, z438⟩, st438⟩ := X436.virtualBack hx (y := (⟨"java/util/ArrayList", "add", "(Ljava/lang/Object;)Z"⟩ : MethodName)) (z := (⟨"java/util/ArrayList", "add", "(Ljava/lang/Object;)Z"⟩ : MethodName)) hown (mvT hZ (hw _ (List.mem_of_getElem? (i := 113) rfl))) (mvT hZ (hw _ (List.mem_of_getElem? (i := 114) rfl))) (notFace_of_selects (args := #[]) (mvT hZ (hw _ (List.mem_of_getElem? (i := 116) rfl)))) (mvT hZ (hw _ (List.mem_of_getElem? (i := 116) rfl))) (mvT hZ (hw _ (List.mem_of_getElem? (i := 115) rfl))) (by decide) (backOf (W := 0) (rm_add1 l Z a0 hw [] al s1 ea ka s0 ((0 : Int32) + (1 : Int32)) T436.heap n0 Z0 E_al F_modCount_al F_elementData_al F_size_al g_al g_ea ne_al_ea V_ea E_ea O_ea E_s1) hZ (hw _ (List.mem_of_getElem? (i := 117) rfl)) (hw _ (List.mem_of_getElem? (i := 3) rfl)) (by decide) (by decide)) q438a q438c (g := (mkF m 64 #[.val (.int i0), .val (.int i1), .val (.int i2), .val (.int (3 : Int32)), .val (.int kk), .val (.ref al), .unset, .unset, .unset] [(.ref s1), (.ref al)])) rfl (by rw [hml]; rfl) (Steps.refl _) (argsL := [(.ref s1)]) (rest := []) (lenOf pdj__Ljava_lang_Object__Z rfl) rfl (by show 2 * 0 + _ ≤ _; exact Nat.le_of_eq rfl) (hb hby at_64) (fun _ _ => ⟨rfl, rfl, (by decide : 6 + 0 ≤ _), (by decide : 23 + 0 ≤ _)⟩)
      dsimp only [Pt.U, Pt.locs, Pt.cells, Pt.slots] at X438 l438 y438 z438 st438 hQ438
      subst l438 y438 z438
      obtain ⟨rfl, N438q, K438, E438, M438, D438, Sz438, V438, EX438⟩ := hQ438
      have K0 := K0.trans K438 (allS (Or.inr sz_al) (allS (Or.inr sz_ea) all0))
      have Z0 := Nat.le_trans Z0 K438.1
      have E_al := E438
      have F_modCount_al := M438
      have F_elementData_al := D438
      have F_size_al := Sz438
      have V_ea := V438
      have E_ea := EX438
      have E_s0 := E_s0.keep K438
      have E_s1 := E_s1.keep K438
      have N438 := Fr.app N436 N438q
      have go439 : Go p e below T438 (mkF m 67 #[.val (.int i0), .val (.int i1), .val (.int i2), .val (.int (3 : Int32)), .val (.int kk), .val (.ref al), .unset, .unset, .unset] [(.int (1 : Int32))]) S0 := fun t kt => go437 t (st438.trans kt)
      have go440 : Go p e below T438 (mkF m 84 #[.val (.int i0), .val (.int i1), .val (.int i2), .val (.int (3 : Int32)), .val (.int kk), .val (.ref al), .unset, .unset, .unset] [(.int ((((i2.toUInt32 >>> ((16 : Int32) &&& 31).toUInt32).toInt32) &&& (255 : Int32)).toUInt32.toUInt16.toUInt32.toInt32)), (.ref al)]) S0 := by
        intro t kt
        refine go439 t ?_
        refine XS.pop X438.here hx rfl (hb hby at_67) rfl rfl ?_
        refine XS.iloadN X438.here hx rfl (hb hby at_68) rfl ?_
        refine XS.iconst X438.here hx rfl (hb hby at_69) ?_
        refine XS.icmpNo X438.here hx rfl (hb hby at_70) rfl (flt (by decide)).1 ?_
        refine XS.aload X438.here hx rfl (hb hby at_73) rfl rfl ?_
        refine XS.iloadN X438.here hx rfl (hb hby at_75) rfl ?_
        show Steps p.tables e below (T438.setTop (mkF m 76 #[.val (.int i0), .val (.int i1), .val (.int i2), .val (.int (3 : Int32)), .val (.int kk), .val (.ref al), .unset, .unset, .unset] [(.int i2), (.ref al)])) _
        refine XS.bipush X438.here hx rfl (hb hby at_76) ?_
        refine XS.iushr X438.here hx rfl (hb hby at_78) rfl ?_
        refine XS.sipush X438.here hx rfl (hb hby at_79) ?_
        refine XS.iand X438.here hx rfl (hb hby at_82) rfl ?_
        refine XS.i2c X438.here hx rfl (hb hby at_83) rfl ?_
        exact kt
      obtain ⟨_, _, ⟨T441, L441, k441, n441⟩, -, X441, ⟨Lc441, hQ441, l441, y441, z441⟩, st441⟩ := Jvm.LawKit.callS X438 hx (y := (⟨"java/lang/String", "valueOf", "(C)Ljava/lang/String;"⟩ : MethodName)) hown (mvT hZ (hw _ (List.mem_of_getElem? (i := 89) rfl))) (mvT hZ (hw _ (List.mem_of_getElem? (i := 90) rfl))) (mvT hZ (hw _ (List.mem_of_getElem? (i := 91) rfl))) (mvT hZ (hw _ (List.mem_of_getElem? (i := 92) rfl))) (by decide) (backOf (W := 1) (rm_valueOf l Z a0 hw [] ((((i2.toUInt32 >>> ((16 : Int32) &&& 31).toUInt32).toInt32) &&& (255 : Int32)).toUInt32.toUInt16.toUInt32.toInt32) zc T438.heap n0 Z0 (own_c _) P5 (S_CS.ext (own_et O0 (own_ext K0)))) hZ (hw _ (List.mem_of_getElem? (i := 92) rfl)) (hw _ (List.mem_of_getElem? (i := 91) rfl)) (by decide) (by decide)) (g := (mkF m 84 #[.val (.int i0), .val (.int i1), .val (.int i2), .val (.int (3 : Int32)), .val (.int kk), .val (.ref al), .unset, .unset, .unset] [(.int ((((i2.toUInt32 >>> ((16 : Int32) &&& 31).toUInt32).toInt32) &&& (255 : Int32)).toUInt32.toUInt16.toUInt32.toInt32)), (.ref al)])) rfl (by rw [hml]; rfl) (argsL := [(.int ((((i2.toUInt32 >>> ((16 : Int32) &&& 31).toUInt32).toInt32) &&& (255 : Int32)).toUInt32.toUInt16.toUInt32.toInt32))]) (rest := [(.ref al)]) (lenOf pdj__C_Ljava_lang_String_ rfl) rfl (by show 2 * 0 + _ ≤ _; exact Nat.le_of_eq rfl) (hb hby at_84) (fun _ _ => ⟨rfl, rfl, (by decide : 6 + 2 ≤ _), (by decide : 23 + 5 ≤ _)⟩)
      dsimp only [Pt.U, Pt.locs, Pt.cells, Pt.slots] at X441 l441 y441 z441 st441 hQ441
      subst l441 y441 z441
      obtain ⟨s2, rfl, N441q, E441, ES441⟩ := hQ441
      have E_al := E_al.ext E441
      have F_modCount_al := F_modCount_al.ext E441
      have F_elementData_al := F_elementData_al.ext E441
      have F_size_al := F_size_al.ext E441
      have V_ea := V_ea.ext E441
      have E_ea := E_ea.ext E441
      have E_s0 := E_s0.ext E441
      have E_s1 := E_s1.ext E441
      have Z0 := Nat.le_trans Z0 E441.1
      have K0 := K0.ext E441
      have N441 := Fr.app N438 N441q
      have go442 : Go p e below T441 (mkF m 87 #[.val (.int i0), .val (.int i1), .val (.int i2), .val (.int (3 : Int32)), .val (.int kk), .val (.ref al), .unset, .unset, .unset] [(.ref s2), (.ref al)]) S0 := fun t kt => go440 t (st441 _ kt)
      have E_s2 := ES441
      obtain ⟨cq443, kq443, q443a, q443b, q443c⟩ := isOf hZ rfl E_al
      obtain ⟨_, _, ⟨T443, L443, k443, n443⟩, -, X443, ⟨Lc443, hQ443, l443, y443, z443⟩, st443⟩ := X441.virtualBack hx (y := (⟨"java/util/ArrayList", "add", "(Ljava/lang/Object;)Z"⟩ : MethodName)) (z := (⟨"java/util/ArrayList", "add", "(Ljava/lang/Object;)Z"⟩ : MethodName)) hown (mvT hZ (hw _ (List.mem_of_getElem? (i := 113) rfl))) (mvT hZ (hw _ (List.mem_of_getElem? (i := 114) rfl))) (notFace_of_selects (args := #[]) (mvT hZ (hw _ (List.mem_of_getElem? (i := 116) rfl)))) (mvT hZ (hw _ (List.mem_of_getElem? (i := 116) rfl))) (mvT hZ (hw _ (List.mem_of_getElem? (i := 115) rfl))) (by decide) (backOf (W := 0) (rm_add2 l Z a0 hw [] al s2 ea ka s0 s1 (((0 : Int32) + (1 : Int32)) + (1 : Int32)) T441.heap n0 Z0 E_al F_modCount_al F_elementData_al F_size_al g_al g_ea ne_al_ea V_ea E_ea O_ea E_s2) hZ (hw _ (List.mem_of_getElem? (i := 117) rfl)) (hw _ (List.mem_of_getElem? (i := 3) rfl)) (by decide) (by decide)) q443a q443c (g := (mkF m 87 #[.val (.int i0), .val (.int i1), .val (.int i2), .val (.int (3 : Int32)), .val (.int kk), .val (.ref al), .unset, .unset, .unset] [(.ref s2), (.ref al)])) rfl (by rw [hml]; rfl) (Steps.refl _) (argsL := [(.ref s2)]) (rest := []) (lenOf pdj__Ljava_lang_Object__Z rfl) rfl (by show 2 * 0 + _ ≤ _; exact Nat.le_of_eq rfl) (hb hby at_87) (fun _ _ => ⟨rfl, rfl, (by decide : 8 + 0 ≤ _), (by decide : 28 + 0 ≤ _)⟩)
      dsimp only [Pt.U, Pt.locs, Pt.cells, Pt.slots] at X443 l443 y443 z443 st443 hQ443
      subst l443 y443 z443
      obtain ⟨rfl, N443q, K443, E443, M443, D443, Sz443, V443, EX443⟩ := hQ443
      have K0 := K0.trans K443 (allS (Or.inr sz_al) (allS (Or.inr sz_ea) all0))
      have Z0 := Nat.le_trans Z0 K443.1
      have E_al := E443
      have F_modCount_al := M443
      have F_elementData_al := D443
      have F_size_al := Sz443
      have V_ea := V443
      have E_ea := EX443
      have E_s0 := E_s0.keep K443
      have E_s1 := E_s1.keep K443
      have E_s2 := E_s2.keep K443
      have N443 := Fr.app N441 N443q
      have go444 : Go p e below T443 (mkF m 90 #[.val (.int i0), .val (.int i1), .val (.int i2), .val (.int (3 : Int32)), .val (.int kk), .val (.ref al), .unset, .unset, .unset] [(.int (1 : Int32))]) S0 := fun t kt => go442 t (st443.trans kt)
      have go445 : Go p e below T443 (mkF m 91 #[.val (.int i0), .val (.int i1), .val (.int i2), .val (.int (3 : Int32)), .val (.int kk), .val (.ref al), .unset, .unset, .unset] []) S0 := by
        intro t kt
        refine go444 t ?_
        refine XS.pop X443.here hx rfl (hb hby at_90) rfl rfl ?_
        exact kt
      obtain ⟨T446, h446, X446, e446, E446, A446, D446, -, st446⟩ := newO X443 hx hZ hown (hw _ (List.mem_of_getElem? (i := 27) rfl)) (hw _ (List.mem_of_getElem? (i := 28) rfl)) (hw _ (List.mem_of_getElem? (i := 29) rfl)) rfl (g := (mkF m 91 #[.val (.int i0), .val (.int i1), .val (.int i2), .val (.int (3 : Int32)), .val (.int kk), .val (.ref al), .unset, .unset, .unset] [])) rfl (hb hby at_91) (by decide) (by decide)
      obtain ⟨fn, g446⟩ : ∃ z, z = T443.heap.size := ⟨_, rfl⟩
      rw [← g446] at A446 D446 st446
      have g_fn : n0 ≤ fn := Nat.le_trans Z0 (Nat.le_of_eq g446.symm)
      have sz_fn : h0.size ≤ fn := Nat.le_trans K0.1 (Nat.le_of_eq g446.symm)
      have E_al := E_al.ext E446
      have F_modCount_al := F_modCount_al.ext E446
      have F_elementData_al := F_elementData_al.ext E446
      have F_size_al := F_size_al.ext E446
      have V_ea := V_ea.ext E446
      have E_ea := E_ea.ext E446
      have E_s0 := E_s0.ext E446
      have E_s1 := E_s1.ext E446
      have E_s2 := E_s2.ext E446
      have Z0 := Nat.le_trans Z0 E446.1
      have K0 := K0.ext E446
      have go447 : Go p e below T446 (mkF m 94 #[.val (.int i0), .val (.int i1), .val (.int i2), .val (.int (3 : Int32)), .val (.int kk), .val (.ref al), .unset, .unset, .unset] [(.ref fn)]) S0 := fun t kt => go445 t (st446 _ kt)
      have E_fn := A446
      have F_names_fn : Fld Z h446 fn "com/example/tinlet/tinlet/deploy/descriptor/FragmentNames" "names" "Ljava/util/List;" .null := D446 (Or.inr (hw _ (List.mem_of_getElem? (i := 64) rfl))) (ty := (.object "java/util/List")) (by decide)
      have F_othersAt_fn : Fld Z h446 fn "com/example/tinlet/tinlet/deploy/descriptor/FragmentNames" "othersAt" "I" (.int (0 : Int32)) := D446 (Or.inr (hw _ (List.mem_of_getElem? (i := 66) rfl))) (ty := .int) (by decide)
      obtain ⟨g, gz, c12, cN, hgn, hP⟩ := own_pall Z (own_U Z h446) (State.Warmed39.refl Z : Z.Warmed39 (own_U Z h446).vm) hw hm (n := 3) E_al F_elementData_al F_size_al F_modCount_al V_ea E_ea (by decide) (by decide) (by decide) (fun v hv => by simp only [List.mem_cons, List.not_mem_nil, or_false] at hv; rcases hv with rfl | rfl | rfl | rfl | rfl | rfl | rfl | rfl | rfl | rfl <;> first | exact Or.inl rfl | exact Or.inr ⟨_, rfl, E_s0⟩ | exact Or.inr ⟨_, rfl, E_s1⟩ | exact Or.inr ⟨_, rfl, E_s2⟩) (fun i hi => by rcases (by omega : i = 0 ∨ i = 1 ∨ i = 2) with rfl | rfl | rfl <;> simp) (S_em.ext (own_et O0 (own_ext K0))) (S_el.ext (own_et O0 (own_ext K0)))
      have go448 : Go p e below T446 (mkF m 99 #[.val (.int i0), .val (.int i1), .val (.int i2), .val (.int (3 : Int32)), .val (.int kk), .val (.ref al), .unset, .unset, .unset] [(.int kk), (.ref al), (.ref fn), (.ref fn)]) S0 := by
        intro t kt
        refine go447 t ?_
        refine XS.dup X446.here hx rfl (hb hby at_94) rfl rfl ?_
        refine XS.aload X446.here hx rfl (hb hby at_95) rfl rfl ?_
        refine XS.iload X446.here hx rfl (hb hby at_97) rfl ?_
        exact kt
      obtain ⟨_, _, ⟨T449, L449, k449, n449⟩, -, X449, ⟨Lc449, hQ449, l449, y449, z449⟩, st449⟩ := X446.specialBack hx (y := (⟨"com/example/tinlet/tinlet/deploy/descriptor/FragmentNames", "<init>", "(Ljava/util/List;I)V"⟩ : MethodName)) rfl hown (mvT hZ (hw _ (List.mem_of_getElem? (i := 30) rfl))) (mvT hZ (hw _ (List.mem_of_getElem? (i := 31) rfl))) (mvT hZ (hw _ (List.mem_of_getElem? (i := 32) rfl))) (by decide) (backOf (W := 1) (rm_fninit l Z a0 hw [] fn al kk g gz c12 cN em el h446 n0 Z0 E_fn F_names_fn F_othersAt_fn g_fn hP) hZ (hw _ (List.mem_of_getElem? (i := 32) rfl)) (hw _ (List.mem_of_getElem? (i := 29) rfl)) (by decide) (by decide)) (g := (mkF m 99 #[.val (.int i0), .val (.int i1), .val (.int i2), .val (.int (3 : Int32)), .val (.int kk), .val (.ref al), .unset, .unset, .unset] [(.int kk), (.ref al), (.ref fn), (.ref fn)])) rfl (by rw [hml]; rfl) (Steps.refl _) (a := fn) (argsL := [(.ref al), (.int kk)]) (rest := [(.ref fn)]) (lenOf pdj__Ljava_util_List_I_V rfl) rfl (by show 2 * 0 + _ ≤ _; exact Nat.le_of_eq rfl) (hb hby at_99) (fun _ _ => ⟨rfl, e446, (by decide : 9 + 3 ≤ _), (by decide : 30 + 8 ≤ _)⟩)
      dsimp only [Pt.U, Pt.locs, Pt.cells, Pt.slots] at X449 l449 y449 z449 st449 hQ449
      subst l449 y449 z449
      obtain ⟨rfl, N449q, K449, E449, FO449, r, FN449, hr⟩ := hQ449
      have K0 := K0.trans K449 (allS (Or.inr sz_fn) all0)
      have Z0 := Nat.le_trans Z0 K449.1
      have E_fn := E449
      have F_othersAt_fn := FO449
      have F_names_fn := FN449
      have N449 := Fr.app N443 N449q
      have go450 : Go p e below T449 (mkF m 102 #[.val (.int i0), .val (.int i1), .val (.int i2), .val (.int (3 : Int32)), .val (.int kk), .val (.ref al), .unset, .unset, .unset] [(.ref fn)]) S0 := fun t kt => go448 t (st449.trans kt)
      have go451 : Go p e below T449 (mkF m 106 #[.val (.int i0), .val (.int i1), .val (.int i2), .val (.int (3 : Int32)), .val (.int kk), .val (.ref al), .val (.ref fn), .unset, .unset] [(.ref fn)]) S0 := by
        intro t kt
        refine go450 t ?_
        refine XS.astore X449.here hx rfl (hb hby at_102) rfl rfl (l' := #[.val (.int i0), .val (.int i1), .val (.int i2), .val (.int (3 : Int32)), .val (.int kk), .val (.ref al), .val (.ref fn), .unset, .unset]) rfl ?_
        refine XS.aload X449.here hx rfl (hb hby at_104) rfl rfl ?_
        exact kt
      obtain ⟨cq452, kq452, q452a, q452b, q452c⟩ := isOf hZ rfl E_fn
      obtain ⟨_, _, ⟨T452, L452, k452, n452⟩, -, X452, ⟨Lc452, hQ452, l452, y452, z452⟩, st452⟩ := X449.virtualBack hx (y := (⟨"com/example/tinlet/tinlet/deploy/descriptor/FragmentNames", "hasOthers", "()Z"⟩ : MethodName)) (z := (⟨"com/example/tinlet/tinlet/deploy/descriptor/FragmentNames", "hasOthers", "()Z"⟩ : MethodName)) hown (mvT hZ (hw _ (List.mem_of_getElem? (i := 67) rfl))) (mvT hZ (hw _ (List.mem_of_getElem? (i := 68) rfl))) (notFace_of_selects (args := #[]) (mvT hZ (hw _ (List.mem_of_getElem? (i := 70) rfl)))) (mvT hZ (hw _ (List.mem_of_getElem? (i := 70) rfl))) (mvT hZ (hw _ (List.mem_of_getElem? (i := 69) rfl))) (by decide) (backOf (W := 0) (rm_hasOthersN l Z a0 hw [] fn kk T449.heap n0 Z0 hk0 F_othersAt_fn) hZ (hw _ (List.mem_of_getElem? (i := 71) rfl)) (hw _ (List.mem_of_getElem? (i := 29) rfl)) (by decide) (by decide)) q452a q452c (g := (mkF m 106 #[.val (.int i0), .val (.int i1), .val (.int i2), .val (.int (3 : Int32)), .val (.int kk), .val (.ref al), .val (.ref fn), .unset, .unset] [(.ref fn)])) rfl (by rw [hml]; rfl) (Steps.refl _) (argsL := []) (rest := []) (lenOf pdj___Z rfl) rfl (by show 2 * 0 + _ ≤ _; exact Nat.le_of_eq rfl) (hb hby at_106) (fun _ _ => ⟨rfl, rfl, (by decide : 12 + 0 ≤ _), (by decide : 38 + 0 ≤ _)⟩)
      dsimp only [Pt.U, Pt.locs, Pt.cells, Pt.slots] at X452 l452 y452 z452 st452 hQ452
      subst l452 y452 z452
      obtain ⟨rfl, N452q, g452⟩ := hQ452
      have K0 := own_ks g452 K0
      rw [← g452] at E_fn F_othersAt_fn F_names_fn Z0
      have N452 := Fr.app N449 N452q
      have go453 : Go p e below T452 (mkF m 109 #[.val (.int i0), .val (.int i1), .val (.int i2), .val (.int (3 : Int32)), .val (.int kk), .val (.ref al), .val (.ref fn), .unset, .unset] [(.int (0 : Int32))]) S0 := fun t kt => go451 t (st452.trans kt)
      have go454 : Go p e below T452 (mkF m 162 #[.val (.int i0), .val (.int i1), .val (.int i2), .val (.int (3 : Int32)), .val (.int kk), .val (.ref al), .val (.ref fn), .val (.int (0 : Int32)), .val (.int (0 : Int32))] [(.int (1 : Int32))]) S0 := by
        intro t kt
        refine go453 t ?_
        refine XS.istore X452.here hx rfl (hb hby at_109) rfl (l' := #[.val (.int i0), .val (.int i1), .val (.int i2), .val (.int (3 : Int32)), .val (.int kk), .val (.ref al), .val (.ref fn), .val (.int (0 : Int32)), .unset]) rfl ?_
        refine XS.iload X452.here hx rfl (hb hby at_111) rfl ?_
        refine XS.iconst X452.here hx rfl (hb hby at_113) ?_
        refine XS.icmpYes X452.here hx rfl (pc0 := 114) (pc' := 121) rfl (hb hby at_114) rfl (teq hkm).1 (by decide) (by decide) ?_
        refine XS.iconst X452.here hx rfl (hb hby at_121) ?_
        refine XS.istore X452.here hx rfl (hb hby at_122) rfl (l' := #[.val (.int i0), .val (.int i1), .val (.int i2), .val (.int (3 : Int32)), .val (.int kk), .val (.ref al), .val (.ref fn), .val (.int (0 : Int32)), .val (.int (0 : Int32))]) rfl ?_
        show Steps p.tables e below (T452.setTop (mkF m 124 #[.val (.int i0), .val (.int i1), .val (.int i2), .val (.int (3 : Int32)), .val (.int kk), .val (.ref al), .val (.ref fn), .val (.int (0 : Int32)), .val (.int (0 : Int32))] [])) _
        refine XS.iload X452.here hx rfl (hb hby at_124) rfl ?_
        refine XS.iload X452.here hx rfl (hb hby at_126) rfl ?_
        refine XS.icmpYes X452.here hx rfl (pc0 := 128) (pc' := 133) rfl (hb hby at_128) rfl (teq rfl).1 (by decide) (by decide) ?_
        refine XS.iloadN X452.here hx rfl (hb hby at_133) rfl ?_
        refine XS.ifYes X452.here hx rfl (pc0 := 134) (pc' := 161) rfl (hb hby at_134) rfl ((if0 _ _).trans (feq (by decide)).2) (by decide) (by decide) ?_
        refine XS.iconst X452.here hx rfl (hb hby at_161) ?_
        exact kt
      obtain ⟨fs, hr, hrun, hended, hW, hsame⟩ := X452.leave (v := some (.int (1 : Int32))) (fun h => by rw [Bd.returns] at h; cases h)
      refine ⟨_, _, go454 _ ?_, hrun, hended, _, _, rfl, ?_, ⟨_, rfl⟩, hW, hsame.mono (by decide) (by decide)⟩
      · show Steps p.tables e below (T452.setTop (mkF m 162 #[.val (.int i0), .val (.int i1), .val (.int i2), .val (.int (3 : Int32)), .val (.int kk), .val (.ref al), .val (.ref fn), .val (.int (0 : Int32)), .val (.int (0 : Int32))] [(.int (1 : Int32))])) _
        exact retN X452 hx (t := .boolean) Bd.returns (by simp) (hb hby at_162) hr
      · show Q_rm0 Z i0 i1 i2 zc dc kd em el ee ke h0 n0 _ T452.heap _
        exact ⟨rfl, N452⟩
    · have hkm : ¬ kk = (-1 : Int32) := fun q => hk0 (by rw [q]; decide)
      obtain ⟨T455, h455, X455, e455, E455, A455, D455, -, st455⟩ := newO X0 hx hZ hown (hw _ (List.mem_of_getElem? (i := 1) rfl)) (hw _ (List.mem_of_getElem? (i := 2) rfl)) (hw _ (List.mem_of_getElem? (i := 3) rfl)) e0 (g := (mkF m 16 #[.val (.int i0), .val (.int i1), .val (.int i2), .val (.int (3 : Int32)), .val (.int kk), .unset, .unset, .unset, .unset] [])) rfl (hb hby at_16) (by decide) (by decide)
      obtain ⟨al, g455⟩ : ∃ z, z = h0.size := ⟨_, rfl⟩
      rw [← g455] at A455 D455 st455
      have g_al : n0 ≤ al := Nat.le_trans Z0 (Nat.le_of_eq g455.symm)
      have sz_al : h0.size ≤ al := Nat.le_trans K0.1 (Nat.le_of_eq g455.symm)
      have Z0 := Nat.le_trans Z0 E455.1
      have K0 := K0.ext E455
      have go456 : Go p e below T455 (mkF m 19 #[.val (.int i0), .val (.int i1), .val (.int i2), .val (.int (3 : Int32)), .val (.int kk), .unset, .unset, .unset, .unset] [(.ref al)]) S0 := fun t kt => go424 t (st455 _ kt)
      have E_al := A455
      have F_modCount_al : Fld Z h455 al "java/util/AbstractList" "modCount" "I" (.int (0 : Int32)) := D455 (Or.inl (hw _ (List.mem_of_getElem? (i := 23) rfl))) (ty := .int) (by decide)
      have F_elementData_al : Fld Z h455 al "java/util/ArrayList" "elementData" "[Ljava/lang/Object;" .null := D455 (Or.inl (hw _ (List.mem_of_getElem? (i := 26) rfl))) (ty := (.array (.object "java/lang/Object"))) (by decide)
      have F_size_al : Fld Z h455 al "java/util/ArrayList" "size" "I" (.int (0 : Int32)) := D455 (Or.inl (hw _ (List.mem_of_getElem? (i := 58) rfl))) (ty := .int) (by decide)
      have ne_dc_al : dc ≠ al := fun q => absurd (Nat.lt_of_lt_of_le V_dc.lt hn0) (Nat.not_lt.mpr (q ▸ g_al))
      have go457 : Go p e below T455 (mkF m 20 #[.val (.int i0), .val (.int i1), .val (.int i2), .val (.int (3 : Int32)), .val (.int kk), .unset, .unset, .unset, .unset] [(.ref al), (.ref al)]) S0 := by
        intro t kt
        refine go456 t ?_
        refine XS.dup X455.here hx rfl (hb hby at_19) rfl rfl ?_
        exact kt
      obtain ⟨_, _, ⟨T458, L458, k458, n458⟩, -, X458, ⟨Lc458, hQ458, l458, y458, z458⟩, st458⟩ := X455.specialBack hx (y := (⟨"java/util/ArrayList", "<init>", "()V"⟩ : MethodName)) rfl hown (mvT hZ (hw _ (List.mem_of_getElem? (i := 4) rfl))) (mvT hZ (hw _ (List.mem_of_getElem? (i := 5) rfl))) (mvT hZ (hw _ (List.mem_of_getElem? (i := 6) rfl))) (by decide) (backOf (W := 1) (rm_alinit l Z a0 hw [] al dc h455 n0 Z0 (own_et O0 (own_ext K0)) hn0 S_DC E_al F_modCount_al F_elementData_al F_size_al g_al) hZ (hw _ (List.mem_of_getElem? (i := 6) rfl)) (hw _ (List.mem_of_getElem? (i := 3) rfl)) (by decide) (by decide)) (g := (mkF m 20 #[.val (.int i0), .val (.int i1), .val (.int i2), .val (.int (3 : Int32)), .val (.int kk), .unset, .unset, .unset, .unset] [(.ref al), (.ref al)])) rfl (by rw [hml]; rfl) (Steps.refl _) (a := al) (argsL := []) (rest := [(.ref al)]) (lenOf pdj___V rfl) rfl (by show 2 * 0 + _ ≤ _; exact Nat.le_of_eq rfl) (hb hby at_20) (fun _ _ => ⟨rfl, e455, (by decide : 1 + 0 ≤ _), (by decide : 3 + 0 ≤ _)⟩)
      dsimp only [Pt.U, Pt.locs, Pt.cells, Pt.slots] at X458 l458 y458 z458 st458 hQ458
      subst l458 y458 z458
      obtain ⟨rfl, N458q, K458, E458, M458, D458, Sz458⟩ := hQ458
      have K0 := K0.trans K458 (allS (Or.inr sz_al) all0)
      have Z0 := Nat.le_trans Z0 K458.1
      have E_al := E458
      have F_modCount_al := M458
      have F_elementData_al := D458
      have F_size_al := Sz458
      have N458 := Fr.app N0 N458q
      have go459 : Go p e below T458 (mkF m 23 #[.val (.int i0), .val (.int i1), .val (.int i2), .val (.int (3 : Int32)), .val (.int kk), .unset, .unset, .unset, .unset] [(.ref al)]) S0 := fun t kt => go457 t (st458.trans kt)
      have go460 : Go p e below T458 (mkF m 38 #[.val (.int i0), .val (.int i1), .val (.int i2), .val (.int (3 : Int32)), .val (.int kk), .val (.ref al), .unset, .unset, .unset] [(.int ((i2 &&& (255 : Int32)).toUInt32.toUInt16.toUInt32.toInt32)), (.ref al)]) S0 := by
        intro t kt
        refine go459 t ?_
        refine XS.astore X458.here hx rfl (hb hby at_23) rfl rfl (l' := #[.val (.int i0), .val (.int i1), .val (.int i2), .val (.int (3 : Int32)), .val (.int kk), .val (.ref al), .unset, .unset, .unset]) rfl ?_
        refine XS.iloadN X458.here hx rfl (hb hby at_25) rfl ?_
        refine XS.iconst X458.here hx rfl (hb hby at_26) ?_
        refine XS.icmpNo X458.here hx rfl (hb hby at_27) rfl (flt (by decide)).1 ?_
        refine XS.aload X458.here hx rfl (hb hby at_30) rfl rfl ?_
        refine XS.iloadN X458.here hx rfl (hb hby at_32) rfl ?_
        show Steps p.tables e below (T458.setTop (mkF m 33 #[.val (.int i0), .val (.int i1), .val (.int i2), .val (.int (3 : Int32)), .val (.int kk), .val (.ref al), .unset, .unset, .unset] [(.int i2), (.ref al)])) _
        refine XS.sipush X458.here hx rfl (hb hby at_33) ?_
        refine XS.iand X458.here hx rfl (hb hby at_36) rfl ?_
        refine XS.i2c X458.here hx rfl (hb hby at_37) rfl ?_
        exact kt
      obtain ⟨_, _, ⟨T461, L461, k461, n461⟩, -, X461, ⟨Lc461, hQ461, l461, y461, z461⟩, st461⟩ := Jvm.LawKit.callS X458 hx (y := (⟨"java/lang/String", "valueOf", "(C)Ljava/lang/String;"⟩ : MethodName)) hown (mvT hZ (hw _ (List.mem_of_getElem? (i := 89) rfl))) (mvT hZ (hw _ (List.mem_of_getElem? (i := 90) rfl))) (mvT hZ (hw _ (List.mem_of_getElem? (i := 91) rfl))) (mvT hZ (hw _ (List.mem_of_getElem? (i := 92) rfl))) (by decide) (backOf (W := 1) (rm_valueOf l Z a0 hw [] ((i2 &&& (255 : Int32)).toUInt32.toUInt16.toUInt32.toInt32) zc T458.heap n0 Z0 (own_c _) P5 (S_CS.ext (own_et O0 (own_ext K0)))) hZ (hw _ (List.mem_of_getElem? (i := 92) rfl)) (hw _ (List.mem_of_getElem? (i := 91) rfl)) (by decide) (by decide)) (g := (mkF m 38 #[.val (.int i0), .val (.int i1), .val (.int i2), .val (.int (3 : Int32)), .val (.int kk), .val (.ref al), .unset, .unset, .unset] [(.int ((i2 &&& (255 : Int32)).toUInt32.toUInt16.toUInt32.toInt32)), (.ref al)])) rfl (by rw [hml]; rfl) (argsL := [(.int ((i2 &&& (255 : Int32)).toUInt32.toUInt16.toUInt32.toInt32))]) (rest := [(.ref al)]) (lenOf pdj__C_Ljava_lang_String_ rfl) rfl (by show 2 * 0 + _ ≤ _; exact Nat.le_of_eq rfl) (hb hby at_38) (fun _ _ => ⟨rfl, rfl, (by decide : 1 + 2 ≤ _), (by decide : 3 + 5 ≤ _)⟩)
      dsimp only [Pt.U, Pt.locs, Pt.cells, Pt.slots] at X461 l461 y461 z461 st461 hQ461
      subst l461 y461 z461
      obtain ⟨s0, rfl, N461q, E461, ES461⟩ := hQ461
      have E_al := E_al.ext E461
      have F_modCount_al := F_modCount_al.ext E461
      have F_elementData_al := F_elementData_al.ext E461
      have F_size_al := F_size_al.ext E461
      have Z0 := Nat.le_trans Z0 E461.1
      have K0 := K0.ext E461
      have N461 := Fr.app N458 N461q
      have go462 : Go p e below T461 (mkF m 41 #[.val (.int i0), .val (.int i1), .val (.int i2), .val (.int (3 : Int32)), .val (.int kk), .val (.ref al), .unset, .unset, .unset] [(.ref s0), (.ref al)]) S0 := fun t kt => go460 t (st461 _ kt)
      have E_s0 := ES461
      obtain ⟨cq463, kq463, q463a, q463b, q463c⟩ := isOf hZ rfl E_al
      obtain ⟨_, _, ⟨T463, L463, k463, n463⟩, -, X463, ⟨Lc463, hQ463, l463, y463, z463⟩, st463⟩ := X461.virtualBack hx (y := (⟨"java/util/ArrayList", "add", "(Ljava/lang/Object;)Z"⟩ : MethodName)) (z := (⟨"java/util/ArrayList", "add", "(Ljava/lang/Object;)Z"⟩ : MethodName)) hown (mvT hZ (hw _ (List.mem_of_getElem? (i := 113) rfl))) (mvT hZ (hw _ (List.mem_of_getElem? (i := 114) rfl))) (notFace_of_selects (args := #[]) (mvT hZ (hw _ (List.mem_of_getElem? (i := 116) rfl)))) (mvT hZ (hw _ (List.mem_of_getElem? (i := 116) rfl))) (mvT hZ (hw _ (List.mem_of_getElem? (i := 115) rfl))) (by decide) (backOf (W := 0) (rm_add0 l Z a0 hw [] al s0 dc kd (0 : Int32) T461.heap n0 Z0 (own_et O0 (own_ext K0)) hn0 ne_dc_al S_DC (V_dc.ext (own_et O0 (own_ext K0))) E_al F_modCount_al F_elementData_al F_size_al g_al E_s0) hZ (hw _ (List.mem_of_getElem? (i := 117) rfl)) (hw _ (List.mem_of_getElem? (i := 3) rfl)) (by decide) (by decide)) q463a q463c (g := (mkF m 41 #[.val (.int i0), .val (.int i1), .val (.int i2), .val (.int (3 : Int32)), .val (.int kk), .val (.ref al), .unset, .unset, .unset] [(.ref s0), (.ref al)])) rfl (by rw [hml]; rfl) (Steps.refl _) (argsL := [(.ref s0)]) (rest := []) (lenOf pdj__Ljava_lang_Object__Z rfl) rfl (by show 2 * 0 + _ ≤ _; exact Nat.le_of_eq rfl) (hb hby at_41) (fun _ _ => ⟨rfl, rfl, (by decide : 3 + 1 ≤ _), (by decide : 8 + 10 ≤ _)⟩)
      dsimp only [Pt.U, Pt.locs, Pt.cells, Pt.slots] at X463 l463 y463 z463 st463 hQ463
      subst l463 y463 z463
      obtain ⟨ea, ka, rfl, N463q, K463, sz463, E463, M463, D463, Sz463, g_ea, ne_al_ea, V463, EX463, O_ea⟩ := hQ463
      have sz_ea : h0.size ≤ ea := Nat.le_trans K0.1 sz463
      have K0 := K0.trans K463 (allS (Or.inr sz_al) all0)
      have Z0 := Nat.le_trans Z0 K463.1
      have E_al := E463
      have F_modCount_al := M463
      have F_elementData_al := D463
      have F_size_al := Sz463
      have V_ea := V463
      have E_ea := EX463
      have E_s0 := E_s0.keep K463
      have N463 := Fr.app N461 N463q
      have go464 : Go p e below T463 (mkF m 44 #[.val (.int i0), .val (.int i1), .val (.int i2), .val (.int (3 : Int32)), .val (.int kk), .val (.ref al), .unset, .unset, .unset] [(.int (1 : Int32))]) S0 := fun t kt => go462 t (st463.trans kt)
      have go465 : Go p e below T463 (mkF m 61 #[.val (.int i0), .val (.int i1), .val (.int i2), .val (.int (3 : Int32)), .val (.int kk), .val (.ref al), .unset, .unset, .unset] [(.int ((((i2.toUInt32 >>> ((8 : Int32) &&& 31).toUInt32).toInt32) &&& (255 : Int32)).toUInt32.toUInt16.toUInt32.toInt32)), (.ref al)]) S0 := by
        intro t kt
        refine go464 t ?_
        refine XS.pop X463.here hx rfl (hb hby at_44) rfl rfl ?_
        refine XS.iloadN X463.here hx rfl (hb hby at_45) rfl ?_
        refine XS.iconst X463.here hx rfl (hb hby at_46) ?_
        refine XS.icmpNo X463.here hx rfl (hb hby at_47) rfl (flt (by decide)).1 ?_
        refine XS.aload X463.here hx rfl (hb hby at_50) rfl rfl ?_
        refine XS.iloadN X463.here hx rfl (hb hby at_52) rfl ?_
        show Steps p.tables e below (T463.setTop (mkF m 53 #[.val (.int i0), .val (.int i1), .val (.int i2), .val (.int (3 : Int32)), .val (.int kk), .val (.ref al), .unset, .unset, .unset] [(.int i2), (.ref al)])) _
        refine XS.bipush X463.here hx rfl (hb hby at_53) ?_
        refine XS.iushr X463.here hx rfl (hb hby at_55) rfl ?_
        refine XS.sipush X463.here hx rfl (hb hby at_56) ?_
        refine XS.iand X463.here hx rfl (hb hby at_59) rfl ?_
        refine XS.i2c X463.here hx rfl (hb hby at_60) rfl ?_
        exact kt
      obtain ⟨_, _, ⟨T466, L466, k466, n466⟩, -, X466, ⟨Lc466, hQ466, l466, y466, z466⟩, st466⟩ := Jvm.LawKit.callS X463 hx (y := (⟨"java/lang/String", "valueOf", "(C)Ljava/lang/String;"⟩ : MethodName)) hown (mvT hZ (hw _ (List.mem_of_getElem? (i := 89) rfl))) (mvT hZ (hw _ (List.mem_of_getElem? (i := 90) rfl))) (mvT hZ (hw _ (List.mem_of_getElem? (i := 91) rfl))) (mvT hZ (hw _ (List.mem_of_getElem? (i := 92) rfl))) (by decide) (backOf (W := 1) (rm_valueOf l Z a0 hw [] ((((i2.toUInt32 >>> ((8 : Int32) &&& 31).toUInt32).toInt32) &&& (255 : Int32)).toUInt32.toUInt16.toUInt32.toInt32) zc T463.heap n0 Z0 (own_c _) P5 (S_CS.ext (own_et O0 (own_ext K0)))) hZ (hw _ (List.mem_of_getElem? (i := 92) rfl)) (hw _ (List.mem_of_getElem? (i := 91) rfl)) (by decide) (by decide)) (g := (mkF m 61 #[.val (.int i0), .val (.int i1), .val (.int i2), .val (.int (3 : Int32)), .val (.int kk), .val (.ref al), .unset, .unset, .unset] [(.int ((((i2.toUInt32 >>> ((8 : Int32) &&& 31).toUInt32).toInt32) &&& (255 : Int32)).toUInt32.toUInt16.toUInt32.toInt32)), (.ref al)])) rfl (by rw [hml]; rfl) (argsL := [(.int ((((i2.toUInt32 >>> ((8 : Int32) &&& 31).toUInt32).toInt32) &&& (255 : Int32)).toUInt32.toUInt16.toUInt32.toInt32))]) (rest := [(.ref al)]) (lenOf pdj__C_Ljava_lang_String_ rfl) rfl (by show 2 * 0 + _ ≤ _; exact Nat.le_of_eq rfl) (hb hby at_61) (fun _ _ => ⟨rfl, rfl, (by decide : 4 + 2 ≤ _), (by decide : 18 + 5 ≤ _)⟩)
      dsimp only [Pt.U, Pt.locs, Pt.cells, Pt.slots] at X466 l466 y466 z466 st466 hQ466
      subst l466 y466 z466
      obtain ⟨s1, rfl, N466q, E466, ES466⟩ := hQ466
      have E_al := E_al.ext E466
      have F_modCount_al := F_modCount_al.ext E466
      have F_elementData_al := F_elementData_al.ext E466
      have F_size_al := F_size_al.ext E466
      have V_ea := V_ea.ext E466
      have E_ea := E_ea.ext E466
      have E_s0 := E_s0.ext E466
      have Z0 := Nat.le_trans Z0 E466.1
      have K0 := K0.ext E466
      have N466 := Fr.app N463 N466q
      have go467 : Go p e below T466 (mkF m 64 #[.val (.int i0), .val (.int i1), .val (.int i2), .val (.int (3 : Int32)), .val (.int kk), .val (.ref al), .unset, .unset, .unset] [(.ref s1), (.ref al)]) S0 := fun t kt => go465 t (st466 _ kt)
      have E_s1 := ES466
      obtain ⟨cq468, kq468, q468a, q468b, q468c⟩ := isOf hZ rfl E_al
      obtain ⟨_, _, ⟨T468, L468, k468, n468⟩, -, X468, ⟨Lc468, hQ468, l468, y468, z468⟩, st468⟩ := X466.virtualBack hx (y := (⟨"java/util/ArrayList", "add", "(Ljava/lang/Object;)Z"⟩ : MethodName)) (z := (⟨"java/util/ArrayList", "add", "(Ljava/lang/Object;)Z"⟩ : MethodName)) hown (mvT hZ (hw _ (List.mem_of_getElem? (i := 113) rfl))) (mvT hZ (hw _ (List.mem_of_getElem? (i := 114) rfl))) (notFace_of_selects (args := #[]) (mvT hZ (hw _ (List.mem_of_getElem? (i := 116) rfl)))) (mvT hZ (hw _ (List.mem_of_getElem? (i := 116) rfl))) (mvT hZ (hw _ (List.mem_of_getElem? (i := 115) rfl))) (by decide) (backOf (W := 0) (rm_add1 l Z a0 hw [] al s1 ea ka s0 ((0 : Int32) + (1 : Int32)) T466.heap n0 Z0 E_al F_modCount_al F_elementData_al F_size_al g_al g_ea ne_al_ea V_ea E_ea O_ea E_s1) hZ (hw _ (List.mem_of_getElem? (i := 117) rfl)) (hw _ (List.mem_of_getElem? (i := 3) rfl)) (by decide) (by decide)) q468a q468c (g := (mkF m 64 #[.val (.int i0), .val (.int i1), .val (.int i2), .val (.int (3 : Int32)), .val (.int kk), .val (.ref al), .unset, .unset, .unset] [(.ref s1), (.ref al)])) rfl (by rw [hml]; rfl) (Steps.refl _) (argsL := [(.ref s1)]) (rest := []) (lenOf pdj__Ljava_lang_Object__Z rfl) rfl (by show 2 * 0 + _ ≤ _; exact Nat.le_of_eq rfl) (hb hby at_64) (fun _ _ => ⟨rfl, rfl, (by decide : 6 + 0 ≤ _), (by decide : 23 + 0 ≤ _)⟩)
      dsimp only [Pt.U, Pt.locs, Pt.cells, Pt.slots] at X468 l468 y468 z468 st468 hQ468
      subst l468 y468 z468
      obtain ⟨rfl, N468q, K468, E468, M468, D468, Sz468, V468, EX468⟩ := hQ468
      have K0 := K0.trans K468 (allS (Or.inr sz_al) (allS (Or.inr sz_ea) all0))
      have Z0 := Nat.le_trans Z0 K468.1
      have E_al := E468
      have F_modCount_al := M468
      have F_elementData_al := D468
      have F_size_al := Sz468
      have V_ea := V468
      have E_ea := EX468
      have E_s0 := E_s0.keep K468
      have E_s1 := E_s1.keep K468
      have N468 := Fr.app N466 N468q
      have go469 : Go p e below T468 (mkF m 67 #[.val (.int i0), .val (.int i1), .val (.int i2), .val (.int (3 : Int32)), .val (.int kk), .val (.ref al), .unset, .unset, .unset] [(.int (1 : Int32))]) S0 := fun t kt => go467 t (st468.trans kt)
      have go470 : Go p e below T468 (mkF m 84 #[.val (.int i0), .val (.int i1), .val (.int i2), .val (.int (3 : Int32)), .val (.int kk), .val (.ref al), .unset, .unset, .unset] [(.int ((((i2.toUInt32 >>> ((16 : Int32) &&& 31).toUInt32).toInt32) &&& (255 : Int32)).toUInt32.toUInt16.toUInt32.toInt32)), (.ref al)]) S0 := by
        intro t kt
        refine go469 t ?_
        refine XS.pop X468.here hx rfl (hb hby at_67) rfl rfl ?_
        refine XS.iloadN X468.here hx rfl (hb hby at_68) rfl ?_
        refine XS.iconst X468.here hx rfl (hb hby at_69) ?_
        refine XS.icmpNo X468.here hx rfl (hb hby at_70) rfl (flt (by decide)).1 ?_
        refine XS.aload X468.here hx rfl (hb hby at_73) rfl rfl ?_
        refine XS.iloadN X468.here hx rfl (hb hby at_75) rfl ?_
        show Steps p.tables e below (T468.setTop (mkF m 76 #[.val (.int i0), .val (.int i1), .val (.int i2), .val (.int (3 : Int32)), .val (.int kk), .val (.ref al), .unset, .unset, .unset] [(.int i2), (.ref al)])) _
        refine XS.bipush X468.here hx rfl (hb hby at_76) ?_
        refine XS.iushr X468.here hx rfl (hb hby at_78) rfl ?_
        refine XS.sipush X468.here hx rfl (hb hby at_79) ?_
        refine XS.iand X468.here hx rfl (hb hby at_82) rfl ?_
        refine XS.i2c X468.here hx rfl (hb hby at_83) rfl ?_
        exact kt
      obtain ⟨_, _, ⟨T471, L471, k471, n471⟩, -, X471, ⟨Lc471, hQ471, l471, y471, z471⟩, st471⟩ := Jvm.LawKit.callS X468 hx (y := (⟨"java/lang/String", "valueOf", "(C)Ljava/lang/String;"⟩ : MethodName)) hown (mvT hZ (hw _ (List.mem_of_getElem? (i := 89) rfl))) (mvT hZ (hw _ (List.mem_of_getElem? (i := 90) rfl))) (mvT hZ (hw _ (List.mem_of_getElem? (i := 91) rfl))) (mvT hZ (hw _ (List.mem_of_getElem? (i := 92) rfl))) (by decide) (backOf (W := 1) (rm_valueOf l Z a0 hw [] ((((i2.toUInt32 >>> ((16 : Int32) &&& 31).toUInt32).toInt32) &&& (255 : Int32)).toUInt32.toUInt16.toUInt32.toInt32) zc T468.heap n0 Z0 (own_c _) P5 (S_CS.ext (own_et O0 (own_ext K0)))) hZ (hw _ (List.mem_of_getElem? (i := 92) rfl)) (hw _ (List.mem_of_getElem? (i := 91) rfl)) (by decide) (by decide)) (g := (mkF m 84 #[.val (.int i0), .val (.int i1), .val (.int i2), .val (.int (3 : Int32)), .val (.int kk), .val (.ref al), .unset, .unset, .unset] [(.int ((((i2.toUInt32 >>> ((16 : Int32) &&& 31).toUInt32).toInt32) &&& (255 : Int32)).toUInt32.toUInt16.toUInt32.toInt32)), (.ref al)])) rfl (by rw [hml]; rfl) (argsL := [(.int ((((i2.toUInt32 >>> ((16 : Int32) &&& 31).toUInt32).toInt32) &&& (255 : Int32)).toUInt32.toUInt16.toUInt32.toInt32))]) (rest := [(.ref al)]) (lenOf pdj__C_Ljava_lang_String_ rfl) rfl (by show 2 * 0 + _ ≤ _; exact Nat.le_of_eq rfl) (hb hby at_84) (fun _ _ => ⟨rfl, rfl, (by decide : 6 + 2 ≤ _), (by decide : 23 + 5 ≤ _)⟩)
      dsimp only [Pt.U, Pt.locs, Pt.cells, Pt.slots] at X471 l471 y471 z471 st471 hQ471
      subst l471 y471 z471
      obtain ⟨s2, rfl, N471q, E471, ES471⟩ := hQ471
      have E_al := E_al.ext E471
      have F_modCount_al := F_modCount_al.ext E471
      have F_elementData_al := F_elementData_al.ext E471
      have F_size_al := F_size_al.ext E471
      have V_ea := V_ea.ext E471
      have E_ea := E_ea.ext E471
      have E_s0 := E_s0.ext E471
      have E_s1 := E_s1.ext E471
      have Z0 := Nat.le_trans Z0 E471.1
      have K0 := K0.ext E471
      have N471 := Fr.app N468 N471q
      have go472 : Go p e below T471 (mkF m 87 #[.val (.int i0), .val (.int i1), .val (.int i2), .val (.int (3 : Int32)), .val (.int kk), .val (.ref al), .unset, .unset, .unset] [(.ref s2), (.ref al)]) S0 := fun t kt => go470 t (st471 _ kt)
      have E_s2 := ES471
      obtain ⟨cq473, kq473, q473a, q473b, q473c⟩ := isOf hZ rfl E_al
      obtain ⟨_, _, ⟨T473, L473, k473, n473⟩, -, X473, ⟨Lc473, hQ473, l473, y473, z473⟩, st473⟩ := X471.virtualBack hx (y := (⟨"java/util/ArrayList", "add", "(Ljava/lang/Object;)Z"⟩ : MethodName)) (z := (⟨"java/util/ArrayList", "add", "(Ljava/lang/Object;)Z"⟩ : MethodName)) hown (mvT hZ (hw _ (List.mem_of_getElem? (i := 113) rfl))) (mvT hZ (hw _ (List.mem_of_getElem? (i := 114) rfl))) (notFace_of_selects (args := #[]) (mvT hZ (hw _ (List.mem_of_getElem? (i := 116) rfl)))) (mvT hZ (hw _ (List.mem_of_getElem? (i := 116) rfl))) (mvT hZ (hw _ (List.mem_of_getElem? (i := 115) rfl))) (by decide) (backOf (W := 0) (rm_add2 l Z a0 hw [] al s2 ea ka s0 s1 (((0 : Int32) + (1 : Int32)) + (1 : Int32)) T471.heap n0 Z0 E_al F_modCount_al F_elementData_al F_size_al g_al g_ea ne_al_ea V_ea E_ea O_ea E_s2) hZ (hw _ (List.mem_of_getElem? (i := 117) rfl)) (hw _ (List.mem_of_getElem? (i := 3) rfl)) (by decide) (by decide)) q473a q473c (g := (mkF m 87 #[.val (.int i0), .val (.int i1), .val (.int i2), .val (.int (3 : Int32)), .val (.int kk), .val (.ref al), .unset, .unset, .unset] [(.ref s2), (.ref al)])) rfl (by rw [hml]; rfl) (Steps.refl _) (argsL := [(.ref s2)]) (rest := []) (lenOf pdj__Ljava_lang_Object__Z rfl) rfl (by show 2 * 0 + _ ≤ _; exact Nat.le_of_eq rfl) (hb hby at_87) (fun _ _ => ⟨rfl, rfl, (by decide : 8 + 0 ≤ _), (by decide : 28 + 0 ≤ _)⟩)
      dsimp only [Pt.U, Pt.locs, Pt.cells, Pt.slots] at X473 l473 y473 z473 st473 hQ473
      subst l473 y473 z473
      obtain ⟨rfl, N473q, K473, E473, M473, D473, Sz473, V473, EX473⟩ := hQ473
      have K0 := K0.trans K473 (allS (Or.inr sz_al) (allS (Or.inr sz_ea) all0))
      have Z0 := Nat.le_trans Z0 K473.1
      have E_al := E473
      have F_modCount_al := M473
      have F_elementData_al := D473
      have F_size_al := Sz473
      have V_ea := V473
      have E_ea := EX473
      have E_s0 := E_s0.keep K473
      have E_s1 := E_s1.keep K473
      have E_s2 := E_s2.keep K473
      have N473 := Fr.app N471 N473q
      have go474 : Go p e below T473 (mkF m 90 #[.val (.int i0), .val (.int i1), .val (.int i2), .val (.int (3 : Int32)), .val (.int kk), .val (.ref al), .unset, .unset, .unset] [(.int (1 : Int32))]) S0 := fun t kt => go472 t (st473.trans kt)
      have go475 : Go p e below T473 (mkF m 91 #[.val (.int i0), .val (.int i1), .val (.int i2), .val (.int (3 : Int32)), .val (.int kk), .val (.ref al), .unset, .unset, .unset] []) S0 := by
        intro t kt
        refine go474 t ?_
        refine XS.pop X473.here hx rfl (hb hby at_90) rfl rfl ?_
        exact kt
      obtain ⟨T476, h476, X476, e476, E476, A476, D476, -, st476⟩ := newO X473 hx hZ hown (hw _ (List.mem_of_getElem? (i := 27) rfl)) (hw _ (List.mem_of_getElem? (i := 28) rfl)) (hw _ (List.mem_of_getElem? (i := 29) rfl)) rfl (g := (mkF m 91 #[.val (.int i0), .val (.int i1), .val (.int i2), .val (.int (3 : Int32)), .val (.int kk), .val (.ref al), .unset, .unset, .unset] [])) rfl (hb hby at_91) (by decide) (by decide)
      obtain ⟨fn, g476⟩ : ∃ z, z = T473.heap.size := ⟨_, rfl⟩
      rw [← g476] at A476 D476 st476
      have g_fn : n0 ≤ fn := Nat.le_trans Z0 (Nat.le_of_eq g476.symm)
      have sz_fn : h0.size ≤ fn := Nat.le_trans K0.1 (Nat.le_of_eq g476.symm)
      have E_al := E_al.ext E476
      have F_modCount_al := F_modCount_al.ext E476
      have F_elementData_al := F_elementData_al.ext E476
      have F_size_al := F_size_al.ext E476
      have V_ea := V_ea.ext E476
      have E_ea := E_ea.ext E476
      have E_s0 := E_s0.ext E476
      have E_s1 := E_s1.ext E476
      have E_s2 := E_s2.ext E476
      have Z0 := Nat.le_trans Z0 E476.1
      have K0 := K0.ext E476
      have go477 : Go p e below T476 (mkF m 94 #[.val (.int i0), .val (.int i1), .val (.int i2), .val (.int (3 : Int32)), .val (.int kk), .val (.ref al), .unset, .unset, .unset] [(.ref fn)]) S0 := fun t kt => go475 t (st476 _ kt)
      have E_fn := A476
      have F_names_fn : Fld Z h476 fn "com/example/tinlet/tinlet/deploy/descriptor/FragmentNames" "names" "Ljava/util/List;" .null := D476 (Or.inr (hw _ (List.mem_of_getElem? (i := 64) rfl))) (ty := (.object "java/util/List")) (by decide)
      have F_othersAt_fn : Fld Z h476 fn "com/example/tinlet/tinlet/deploy/descriptor/FragmentNames" "othersAt" "I" (.int (0 : Int32)) := D476 (Or.inr (hw _ (List.mem_of_getElem? (i := 66) rfl))) (ty := .int) (by decide)
      obtain ⟨g, gz, c12, cN, hgn, hP⟩ := own_pall Z (own_U Z h476) (State.Warmed39.refl Z : Z.Warmed39 (own_U Z h476).vm) hw hm (n := 3) E_al F_elementData_al F_size_al F_modCount_al V_ea E_ea (by decide) (by decide) (by decide) (fun v hv => by simp only [List.mem_cons, List.not_mem_nil, or_false] at hv; rcases hv with rfl | rfl | rfl | rfl | rfl | rfl | rfl | rfl | rfl | rfl <;> first | exact Or.inl rfl | exact Or.inr ⟨_, rfl, E_s0⟩ | exact Or.inr ⟨_, rfl, E_s1⟩ | exact Or.inr ⟨_, rfl, E_s2⟩) (fun i hi => by rcases (by omega : i = 0 ∨ i = 1 ∨ i = 2) with rfl | rfl | rfl <;> simp) (S_em.ext (own_et O0 (own_ext K0))) (S_el.ext (own_et O0 (own_ext K0)))
      have go478 : Go p e below T476 (mkF m 99 #[.val (.int i0), .val (.int i1), .val (.int i2), .val (.int (3 : Int32)), .val (.int kk), .val (.ref al), .unset, .unset, .unset] [(.int kk), (.ref al), (.ref fn), (.ref fn)]) S0 := by
        intro t kt
        refine go477 t ?_
        refine XS.dup X476.here hx rfl (hb hby at_94) rfl rfl ?_
        refine XS.aload X476.here hx rfl (hb hby at_95) rfl rfl ?_
        refine XS.iload X476.here hx rfl (hb hby at_97) rfl ?_
        exact kt
      obtain ⟨_, _, ⟨T479, L479, k479, n479⟩, -, X479, ⟨Lc479, hQ479, l479, y479, z479⟩, st479⟩ := X476.specialBack hx (y := (⟨"com/example/tinlet/tinlet/deploy/descriptor/FragmentNames", "<init>", "(Ljava/util/List;I)V"⟩ : MethodName)) rfl hown (mvT hZ (hw _ (List.mem_of_getElem? (i := 30) rfl))) (mvT hZ (hw _ (List.mem_of_getElem? (i := 31) rfl))) (mvT hZ (hw _ (List.mem_of_getElem? (i := 32) rfl))) (by decide) (backOf (W := 1) (rm_fninit l Z a0 hw [] fn al kk g gz c12 cN em el h476 n0 Z0 E_fn F_names_fn F_othersAt_fn g_fn hP) hZ (hw _ (List.mem_of_getElem? (i := 32) rfl)) (hw _ (List.mem_of_getElem? (i := 29) rfl)) (by decide) (by decide)) (g := (mkF m 99 #[.val (.int i0), .val (.int i1), .val (.int i2), .val (.int (3 : Int32)), .val (.int kk), .val (.ref al), .unset, .unset, .unset] [(.int kk), (.ref al), (.ref fn), (.ref fn)])) rfl (by rw [hml]; rfl) (Steps.refl _) (a := fn) (argsL := [(.ref al), (.int kk)]) (rest := [(.ref fn)]) (lenOf pdj__Ljava_util_List_I_V rfl) rfl (by show 2 * 0 + _ ≤ _; exact Nat.le_of_eq rfl) (hb hby at_99) (fun _ _ => ⟨rfl, e476, (by decide : 9 + 3 ≤ _), (by decide : 30 + 8 ≤ _)⟩)
      dsimp only [Pt.U, Pt.locs, Pt.cells, Pt.slots] at X479 l479 y479 z479 st479 hQ479
      subst l479 y479 z479
      obtain ⟨rfl, N479q, K479, E479, FO479, r, FN479, hr⟩ := hQ479
      have K0 := K0.trans K479 (allS (Or.inr sz_fn) all0)
      have Z0 := Nat.le_trans Z0 K479.1
      have E_fn := E479
      have F_othersAt_fn := FO479
      have F_names_fn := FN479
      have N479 := Fr.app N473 N479q
      have go480 : Go p e below T479 (mkF m 102 #[.val (.int i0), .val (.int i1), .val (.int i2), .val (.int (3 : Int32)), .val (.int kk), .val (.ref al), .unset, .unset, .unset] [(.ref fn)]) S0 := fun t kt => go478 t (st479.trans kt)
      have go481 : Go p e below T479 (mkF m 106 #[.val (.int i0), .val (.int i1), .val (.int i2), .val (.int (3 : Int32)), .val (.int kk), .val (.ref al), .val (.ref fn), .unset, .unset] [(.ref fn)]) S0 := by
        intro t kt
        refine go480 t ?_
        refine XS.astore X479.here hx rfl (hb hby at_102) rfl rfl (l' := #[.val (.int i0), .val (.int i1), .val (.int i2), .val (.int (3 : Int32)), .val (.int kk), .val (.ref al), .val (.ref fn), .unset, .unset]) rfl ?_
        refine XS.aload X479.here hx rfl (hb hby at_104) rfl rfl ?_
        exact kt
      obtain ⟨cq482, kq482, q482a, q482b, q482c⟩ := isOf hZ rfl E_fn
      obtain ⟨_, _, ⟨T482, L482, k482, n482⟩, -, X482, ⟨Lc482, hQ482, l482, y482, z482⟩, st482⟩ := X479.virtualBack hx (y := (⟨"com/example/tinlet/tinlet/deploy/descriptor/FragmentNames", "hasOthers", "()Z"⟩ : MethodName)) (z := (⟨"com/example/tinlet/tinlet/deploy/descriptor/FragmentNames", "hasOthers", "()Z"⟩ : MethodName)) hown (mvT hZ (hw _ (List.mem_of_getElem? (i := 67) rfl))) (mvT hZ (hw _ (List.mem_of_getElem? (i := 68) rfl))) (notFace_of_selects (args := #[]) (mvT hZ (hw _ (List.mem_of_getElem? (i := 70) rfl)))) (mvT hZ (hw _ (List.mem_of_getElem? (i := 70) rfl))) (mvT hZ (hw _ (List.mem_of_getElem? (i := 69) rfl))) (by decide) (backOf (W := 0) (rm_hasOthersY l Z a0 hw [] fn kk T479.heap n0 Z0 hk0 F_othersAt_fn) hZ (hw _ (List.mem_of_getElem? (i := 71) rfl)) (hw _ (List.mem_of_getElem? (i := 29) rfl)) (by decide) (by decide)) q482a q482c (g := (mkF m 106 #[.val (.int i0), .val (.int i1), .val (.int i2), .val (.int (3 : Int32)), .val (.int kk), .val (.ref al), .val (.ref fn), .unset, .unset] [(.ref fn)])) rfl (by rw [hml]; rfl) (Steps.refl _) (argsL := []) (rest := []) (lenOf pdj___Z rfl) rfl (by show 2 * 0 + _ ≤ _; exact Nat.le_of_eq rfl) (hb hby at_106) (fun _ _ => ⟨rfl, rfl, (by decide : 12 + 0 ≤ _), (by decide : 38 + 0 ≤ _)⟩)
      dsimp only [Pt.U, Pt.locs, Pt.cells, Pt.slots] at X482 l482 y482 z482 st482 hQ482
      subst l482 y482 z482
      obtain ⟨rfl, N482q, g482⟩ := hQ482
      have K0 := own_ks g482 K0
      rw [← g482] at E_fn F_othersAt_fn F_names_fn Z0
      have N482 := Fr.app N479 N482q
      have go483 : Go p e below T482 (mkF m 109 #[.val (.int i0), .val (.int i1), .val (.int i2), .val (.int (3 : Int32)), .val (.int kk), .val (.ref al), .val (.ref fn), .unset, .unset] [(.int (1 : Int32))]) S0 := fun t kt => go481 t (st482.trans kt)
      have go484 : Go p e below T482 (mkF m 162 #[.val (.int i0), .val (.int i1), .val (.int i2), .val (.int (3 : Int32)), .val (.int kk), .val (.ref al), .val (.ref fn), .val (.int (1 : Int32)), .val (.int (1 : Int32))] [(.int (1 : Int32))]) S0 := by
        intro t kt
        refine go483 t ?_
        refine XS.istore X482.here hx rfl (hb hby at_109) rfl (l' := #[.val (.int i0), .val (.int i1), .val (.int i2), .val (.int (3 : Int32)), .val (.int kk), .val (.ref al), .val (.ref fn), .val (.int (1 : Int32)), .unset]) rfl ?_
        refine XS.iload X482.here hx rfl (hb hby at_111) rfl ?_
        refine XS.iconst X482.here hx rfl (hb hby at_113) ?_
        refine XS.icmpNo X482.here hx rfl (hb hby at_114) rfl (feq hkm).1 ?_
        refine XS.iconst X482.here hx rfl (hb hby at_117) ?_
        refine XS.goto X482.here hx rfl (pc0 := 118) (pc' := 122) rfl (hb hby at_118) (by decide) (by decide) ?_
        show Steps p.tables e below (T482.setTop (mkF m 122 #[.val (.int i0), .val (.int i1), .val (.int i2), .val (.int (3 : Int32)), .val (.int kk), .val (.ref al), .val (.ref fn), .val (.int (1 : Int32)), .unset] [(.int (1 : Int32))])) _
        refine XS.istore X482.here hx rfl (hb hby at_122) rfl (l' := #[.val (.int i0), .val (.int i1), .val (.int i2), .val (.int (3 : Int32)), .val (.int kk), .val (.ref al), .val (.ref fn), .val (.int (1 : Int32)), .val (.int (1 : Int32))]) rfl ?_
        refine XS.iload X482.here hx rfl (hb hby at_124) rfl ?_
        refine XS.iload X482.here hx rfl (hb hby at_126) rfl ?_
        refine XS.icmpYes X482.here hx rfl (pc0 := 128) (pc' := 133) rfl (hb hby at_128) rfl (teq rfl).1 (by decide) (by decide) ?_
        refine XS.iloadN X482.here hx rfl (hb hby at_133) rfl ?_
        refine XS.ifYes X482.here hx rfl (pc0 := 134) (pc' := 161) rfl (hb hby at_134) rfl ((if0 _ _).trans (feq (by decide)).2) (by decide) (by decide) ?_
        show Steps p.tables e below (T482.setTop (mkF m 161 #[.val (.int i0), .val (.int i1), .val (.int i2), .val (.int (3 : Int32)), .val (.int kk), .val (.ref al), .val (.ref fn), .val (.int (1 : Int32)), .val (.int (1 : Int32))] [])) _
        refine XS.iconst X482.here hx rfl (hb hby at_161) ?_
        exact kt
      obtain ⟨fs, hr, hrun, hended, hW, hsame⟩ := X482.leave (v := some (.int (1 : Int32))) (fun h => by rw [Bd.returns] at h; cases h)
      refine ⟨_, _, go484 _ ?_, hrun, hended, _, _, rfl, ?_, ⟨_, rfl⟩, hW, hsame.mono (by decide) (by decide)⟩
      · show Steps p.tables e below (T482.setTop (mkF m 162 #[.val (.int i0), .val (.int i1), .val (.int i2), .val (.int (3 : Int32)), .val (.int kk), .val (.ref al), .val (.ref fn), .val (.int (1 : Int32)), .val (.int (1 : Int32))] [(.int (1 : Int32))])) _
        exact retN X482 hx (t := .boolean) Bd.returns (by simp) (hb hby at_162) hr
      · show Q_rm0 Z i0 i1 i2 zc dc kd em el ee ke h0 n0 _ T482.heap _
        exact ⟨rfl, N482⟩
theorem own_eq_i {args : Array Value} {s : State} {t : Term} {z : Int32} (h : (Cond.eq t (Term.int z)).value args s none s [] = some true) : t.eval args s none [] s = some (.int z) := by
  simp only [Cond.value, Term.eval] at h
  cases ht : t.eval args s none [] s with
  | none => simp [ht] at h
  | some x => cases x <;> simp_all
theorem own_nil {args : Array Value} {s : State} {t : Term} {a : Addr} {ty : FieldType} {dv : Value} (ev : t.eval args s none [] s = some (.ref a)) (ha : (Cond.arrayOf t ty).value args s none s [] = some true) (hl : (Cond.eq (Term.length t) (Term.int 0)).value args s none s [] = some true) : ∃ k, Arv s s.heap a k ty (0 : Int32) [] dv := by
  obtain ⟨c, A⟩ := Arr.start ev ha
  have ha2 : s.arrayAt? a = some c := Arr.fin (Vm.Alike.refl _) A
  have hz := Jvm.Free.LOB.lenZero_of_words ev ha2 (Cond.before_iff.mpr hl)
  exact ⟨_, c, A, rfl, by rw [hz]; rfl, by decide, fun k hk => by omega, fun k hk => by omega⟩
set_option maxRecDepth 65536 in
set_option maxHeartbeats 40000000 in
theorem comes_1 {Post : Tables → Env → Array Value → State → Outcome → State → Prop} (hpost : ∀ tb e args s v u, (limb_1_1.after args s (.returned v) u = true ∧ limb_1_2.after args s (.returned v) u = true ∧ True) → FrameEnd s (.returned v) u (Jvm.fieldLocs frame_1_writes args s ++ Jvm.arrayLocs frame_1_arrays args s ++ Jvm.staticLocs frame_1_statics s) 32 192 → Post tb e args s (.returned v) u) :
    ArmFor flags0 classFile x code maxLocals ret World_1 tables_1 room_1 Calls_1 rest_1 Pre_1 Post := by
  intro l hfl _ _ p e ha hc hk s m args below hf hA hF happ hP
  obtain ⟨hcalls, hrest, hpre⟩ := hP
  obtain ⟨-, -, -, hnamed, -, -, -, hat⟩ := (Spec.applies_iff hf).mp happ
  obtain ⟨hg, hn⟩ := and_e (Cond.before_iff.mp (show (Jvm.Cond.and given_1 narrow_1).before args s = true from hpre))
  obtain ⟨g1, g2⟩ := and_e hg
  obtain ⟨g3, g4⟩ := and_e g2
  obtain ⟨g5, g6⟩ := and_e g4
  obtain ⟨w0, w1, w2, rfl⟩ : ∃ w0 w1 w2 : Value, args = #[w0, w1, w2] := by
    have hs : args.size = 3 := by simpa [Cond.value, given_1] using g1
    obtain ⟨L⟩ := args
    match L, hs with
    | [w0, w1, w2], _ => exact ⟨w0, w1, w2, rfl⟩
  have hw := fun d (hd : d ∈ tables_1) => atoms_spec (ws := Jvm.Cond.code x code maxLocals ret :: tables_1) hat d (List.mem_cons_of_mem _ hd)
  obtain ⟨hsets, hown0⟩ := atoms_of _ (rest_1_c_eq ▸ (show rest_1_c.before _ s = true from hrest))
  obtain ⟨i0, ei0⟩ := is_v g3
  obtain rfl : w0 = (.int i0) := Option.some.inj ei0
  obtain ⟨i1, ei1⟩ := is_v g5
  obtain rfl : w1 = (.int i1) := Option.some.inj ei1
  obtain ⟨i2, ei2⟩ := is_v g6
  obtain rfl : w2 = (.int i2) := Option.some.inj ei2
  obtain ⟨zc, ezc⟩ := is_v (Cond.before_iff.mp (hsets _ (List.mem_of_getElem? (i := 17) rfl)))
  have c0 := not_v (Cond.before_iff.mp (hsets _ (List.mem_of_getElem? (i := 18) rfl)))
  have S_CS : Sta s s.heap "java/lang/String" "COMPACT_STRINGS" "Z" (.int zc) := Sta.start ezc (Or.inl (hsets _ (List.mem_of_getElem? (i := 16) rfl)))
  have P5 : ¬ (zc = (0 : Int32)) := gotF (Cond.eq_ints ezc (Term.int_eval (0))) c0
  have d0 := Cond.before_iff.mp (hsets _ (List.mem_of_getElem? (i := 7) rfl))
  obtain ⟨dc, vdc⟩ := exa_v d0
  have S_DC : Sta s s.heap "java/util/ArrayList" "DEFAULTCAPACITY_EMPTY_ELEMENTDATA" "[Ljava/lang/Object;" (.ref dc) := Sta.start vdc (Or.inr ⟨(hw _ (List.mem_of_getElem? (i := 3) rfl)), (hsets _ (List.mem_of_getElem? (i := 2) rfl))⟩)
  obtain ⟨kd, V_dc⟩ := own_nil (dv := .null) vdc (Cond.before_iff.mp (hsets _ (List.mem_of_getElem? (i := 6) rfl))) (Cond.before_iff.mp (hsets _ (List.mem_of_getElem? (i := 8) rfl)))
  have m0 := Cond.before_iff.mp (hsets _ (List.mem_of_getElem? (i := 27) rfl))
  obtain ⟨em, vem⟩ := exa_v m0
  have S_em : Sta s s.heap "java/util/ImmutableCollections" "EMPTY" "Ljava/lang/Object;" (.ref em) := Sta.start vem (Or.inl (hsets _ (List.mem_of_getElem? (i := 26) rfl)))
  have l0 := Cond.before_iff.mp (hsets _ (List.mem_of_getElem? (i := 11) rfl))
  obtain ⟨el, vel⟩ := exa_v l0
  have S_el : Sta s s.heap "java/util/ImmutableCollections" "EMPTY_LIST" "Ljava/util/ImmutableCollections$ListN;" (.ref el) := Sta.start vel (Or.inl (hsets _ (List.mem_of_getElem? (i := 10) rfl)))
  have f0 := Cond.before_iff.mp (hsets _ (List.mem_of_getElem? (i := 13) rfl))
  obtain ⟨ee, vee⟩ := exa_v f0
  obtain ⟨ke, V_ee⟩ := own_nil (dv := .null) vee (Cond.before_iff.mp (hsets _ (List.mem_of_getElem? (i := 12) rfl))) (Cond.before_iff.mp (hsets _ (List.mem_of_getElem? (i := 14) rfl)))
  have F_el : Fld s s.heap el "java/util/ImmutableCollections$ListN" "elements" "[Ljava/lang/Object;" (.ref ee) := Fld.start (by rw [← fld_at vel]; exact vee)
  obtain ⟨cm, km, mm, q1, q2, q3, -⟩ : Jvm.D.MirrorMade s "[Ljava/lang/Object;" := hcalls.1
  obtain ⟨n, o, h1, h2, h3, _, L, rfl, ⟨rfl, N⟩, hq⟩ := rm0 l s _ hw tables_1 i0 i1 i2 zc dc kd em el ee ke s.heap s.heap.size (Nat.le_refl _) ⟨Nat.le_refl _, fun _ _ q => q⟩ (Nat.le_refl _) P5 S_CS S_DC V_dc (Exa.start vdc d0) S_em S_el (Exa.start vel l0) F_el V_ee ⟨cm, km, mm, q1, q2, q3⟩ p e ha hc hk s m _ below hf ((Spec.applies_iff_loose hf).mp happ).1 ⟨rfl, State.Warmed39.refl s, rfl⟩ trivial
  refine ⟨n, _, h1, h2, h3, hpost _ _ _ _ _ _ ⟨Cond.after_iff.mpr rfl, Cond.after_iff.mpr (eq_i res_at (Term.int_eval (1)) rfl), trivial⟩ ⟨hq.1, hq.2.1, (hq.2.2.sift fun y hy => Or.inr (N y hy)).mono (by decide) (by decide)⟩⟩
theorem main_1_1 : Claimed_1_1 := comes_1 fun _ _ _ _ _ _ h hF => ⟨h.1, hF⟩
theorem main_1_2 : Claimed_1_2 := comes_1 fun _ _ _ _ _ _ h hF => ⟨h.2.1, hF⟩
end Jvm.Pilot.@@N@@
namespace Jvm.Pilot.@@N@@
open Jvm Jvm.ClassFile Sem Op Lib Jvm.Free Jvm.Stand Jvm.Pilot.@@N@@.Jvm.D
/-! MADE BY PROGRAM (witnessworld.py) out of the Statement's table words and the real class files: 36 classes; the members and pool entries that the words name. The judged class is class 1, her method 1. -/
namespace start1
open Jvm.ClassFile
def u (s : String) : CpInfo := .utf8 (stringToUtf16 s)
/-- a pool by its gaps: so many unusable entries, then the entry; so many at the end -/
def gap : Nat → List CpInfo → List CpInfo
  | 0, r => r
  | n + 1, r => .unusable :: gap n r
def poolList (es : List (Nat × CpInfo)) (last : Nat) : List CpInfo := es.foldr (fun e r => gap e.1 (e.2 :: r)) (gap last [])
def pool (es : List (Nat × CpInfo)) (last : Nat) : Array CpInfo := ⟨poolList es last⟩
def fileOf (pool : Array CpInfo) (this : Nat) (attrs : Array Attribute := #[]) (ms : Array MethodInfo := #[]) (fl : Nat := 33) (sup : Nat := 0) (ifs : Array Nat := #[]) (fds : Array FieldInfo := #[]) : ClassFile where
  minorVersion := 0
  majorVersion := 65
  constantPool := pool
  accessFlags := fl
  thisClass := this
  superClass := sup
  interfaces := ifs
  fields := fds
  methods := ms
  attributes := attrs
def plain (name : String) (sup : Option ClassId) : Class where
  name := name
  kind := .ordinary
  loader := none
  accessFlags := 33
  super := sup
  interfaces := #[]
  cf := none
  fields := #[]
  methods := #[]
  instanceTypes := #[]
  staticTypes := #[]
  resolved := #[]
  callSites := []
  init := .initialized
  statics := none
  mirror := none

def pool0 : Array CpInfo := pool [(5, u "<init>"), (0, u "()V"), (1, .class_ 10), (1, u "java/lang/Object"), (0, u "getClass"), (0, u "()Ljava/lang/Class;")] 111

def k0c0 : Code := { maxStack := 0, maxLocals := 1, code := object_method_1_code, exceptionTable := #[], attributes := #[] }
def k0m0 : Method := { name := "<init>", desc := "()V", sig := { parameters := [], returnType := none }, accessFlags := 1, code := some k0c0 }
def k0m1 : Method := { name := "getClass", desc := "()Ljava/lang/Class;", sig := { parameters := [], returnType := some (.object "java/lang/Class") }, accessFlags := 273, code := none }
/-- java/lang/Object -/
def k0 : Class := { plain "java/lang/Object" none with
  accessFlags := 33
  interfaces := #[]
  cf := some (fileOf pool0 8 #[] #[{ accessFlags := 1, nameIndex := 5, descriptorIndex := 6, attributes := #[] }, { accessFlags := 273, nameIndex := 11, descriptorIndex := 12, attributes := #[] }] 33 0 #[] #[])
  fields := #[]
  methods := #[k0m0, k0m1]
  instanceTypes := #[]
  staticTypes := #[]
  resolved := Array.replicate 124 none
  statics := none }

def pool1 : Array CpInfo := pool [(2, .class_ 4), (0, .nameAndType 5 6), (0, u "java/lang/Object"), (0, u "<init>"), (0, u "()V"), (0, .integer 2147483647), (0, .class_ 9), (0, u "java/util/ArrayList"), (0, .methodref 8 3), (0, .methodref 12 13), (0, .class_ 14), (0, .nameAndType 15 16), (0, u "java/lang/String"), (0, u "valueOf"), (0, u "(C)Ljava/lang/String;"), (0, .methodref 8 18), (0, .nameAndType 19 20), (0, u "add"), (0, u "(Ljava/lang/Object;)Z"), (0, .class_ 22), (0, u "com/example/tinlet/tinlet/deploy/descriptor/FragmentNames"), (0, .methodref 21 24), (0, .nameAndType 5 25), (0, u "(Ljava/util/List;I)V"), (0, .methodref 21 27), (0, .nameAndType 28 29), (0, u "hasOthers"), (0, u "()Z"), (0, .methodref 21 31), (0, .nameAndType 32 29), (0, u "isEmpty"), (0, .class_ 34), (0, u "com/example/tinlet/tinlet/deploy/descriptor/FragmentNamesHasOthersPinLaw"), (2, u "law"), (0, u "(III)Z")] 3

def k1m0 : Method := { name := "<init>", desc := "()V", sig := { parameters := [], returnType := none }, accessFlags := 1, code := none }
def k1c1 : Code := { maxStack := 4, maxLocals := 9, code := code, exceptionTable := #[], attributes := #[] }
def k1m1 : Method := { name := "law", desc := "(III)Z", sig := { parameters := [.int, .int, .int], returnType := some .boolean }, accessFlags := 9, code := some k1c1 }
/-- com/example/tinlet/tinlet/deploy/descriptor/FragmentNamesHasOthersPinLaw -/
def k1 : Class := { plain "com/example/tinlet/tinlet/deploy/descriptor/FragmentNamesHasOthersPinLaw" (some 0) with
  accessFlags := 49
  interfaces := #[]
  cf := some (fileOf pool1 33 #[] #[{ accessFlags := 1, nameIndex := 5, descriptorIndex := 6, attributes := #[] }, { accessFlags := 9, nameIndex := 37, descriptorIndex := 38, attributes := #[] }] 49 2 #[] #[])
  fields := #[]
  methods := #[k1m0, k1m1]
  instanceTypes := #[]
  staticTypes := #[]
  resolved := Array.replicate 42 none
  statics := none }

def pool2 : Array CpInfo := pool [(8, .class_ 10), (1, u "java/lang/Iterable"), (24, .class_ 36), (0, u "java/lang/Object")] 25

/-- java/lang/Iterable -/
def k2 : Class := { plain "java/lang/Iterable" (some 0) with
  accessFlags := 1537
  interfaces := #[]
  cf := some (fileOf pool2 8 #[] #[] 1537 35 #[] #[])
  fields := #[]
  methods := #[]
  instanceTypes := #[]
  staticTypes := #[]
  resolved := Array.replicate 62 none
  statics := none }

def pool3 : Array CpInfo := pool [(10, .class_ 12), (1, u "java/util/Collection"), (0, u "toArray"), (16, u "()Z"), (29, .class_ 61), (0, u "java/lang/Object"), (0, .class_ 63), (0, u "java/lang/Iterable"), (2, u "isEmpty"), (3, u "()[Ljava/lang/Object;")] 44

def k3m0 : Method := { name := "isEmpty", desc := "()Z", sig := { parameters := [], returnType := some .boolean }, accessFlags := 1025, code := none }
def k3m1 : Method := { name := "toArray", desc := "()[Ljava/lang/Object;", sig := { parameters := [], returnType := some (.array (.object "java/lang/Object")) }, accessFlags := 1025, code := none }
/-- java/util/Collection -/
def k3 : Class := { plain "java/util/Collection" (some 0) with
  accessFlags := 1537
  interfaces := #[2]
  cf := some (fileOf pool3 10 #[] #[{ accessFlags := 1025, nameIndex := 66, descriptorIndex := 30, attributes := #[] }, { accessFlags := 1025, nameIndex := 13, descriptorIndex := 70, attributes := #[] }] 1537 60 #[62] #[])
  fields := #[]
  methods := #[k3m0, k3m1]
  instanceTypes := #[]
  staticTypes := #[]
  resolved := Array.replicate 115 none
  statics := none }

def pool4 : Array CpInfo := pool [(1, .methodref 2 3), (0, .class_ 4), (0, .nameAndType 5 6), (0, u "java/lang/Object"), (0, u "<init>"), (0, u "()V"), (1, .class_ 10), (1, u "java/util/AbstractCollection"), (66, .class_ 78), (0, u "java/util/Collection")] 81

def k4c0 : Code := { maxStack := 1, maxLocals := 1, code := jdk_22_method_1_code, exceptionTable := #[], attributes := #[] }
def k4m0 : Method := { name := "<init>", desc := "()V", sig := { parameters := [], returnType := none }, accessFlags := 4, code := some k4c0 }
/-- java/util/AbstractCollection -/
def k4 : Class := { plain "java/util/AbstractCollection" (some 0) with
  accessFlags := 1057
  interfaces := #[3]
  cf := some (fileOf pool4 8 #[] #[{ accessFlags := 4, nameIndex := 5, descriptorIndex := 6, attributes := #[] }] 1057 2 #[77] #[])
  fields := #[]
  methods := #[k4m0]
  instanceTypes := #[]
  staticTypes := #[]
  resolved := Array.replicate 160 none
  statics := none }

def pool5 : Array CpInfo := pool [(8, .class_ 10), (1, u "java/util/SequencedCollection"), (15, .class_ 27), (0, u "java/lang/Object"), (0, .class_ 29), (0, u "java/util/Collection")] 27

/-- java/util/SequencedCollection -/
def k5 : Class := { plain "java/util/SequencedCollection" (some 0) with
  accessFlags := 1537
  interfaces := #[3]
  cf := some (fileOf pool5 8 #[] #[] 1537 26 #[28] #[])
  fields := #[]
  methods := #[]
  instanceTypes := #[]
  staticTypes := #[]
  resolved := Array.replicate 57 none
  statics := none }

def pool6 : Array CpInfo := pool [(8, .class_ 10), (1, u "java/util/List"), (7, u "()Z"), (12, u "(Ljava/lang/Object;)V"), (16, u "<init>"), (18, u "isEmpty"), (20, u "of"), (1, .fieldref 91 92), (0, .class_ 93), (0, .nameAndType 94 95), (0, u "java/util/ImmutableCollections"), (0, u "EMPTY_LIST"), (0, u "Ljava/util/ImmutableCollections$ListN;"), (0, .class_ 97), (0, u "java/util/ImmutableCollections$List12"), (0, .methodref 96 99), (0, .nameAndType 48 31), (0, .methodref 96 101), (0, .nameAndType 48 102), (0, u "(Ljava/lang/Object;Ljava/lang/Object;)V"), (0, .class_ 104), (0, u "java/lang/Object"), (3, u "([Ljava/lang/Object;)Ljava/util/List;"), (0, .methodref 91 110), (0, .nameAndType 111 108), (0, u "listFromArray"), (0, .methodref 91 113), (0, .nameAndType 114 115), (0, u "listCopy"), (0, u "(Ljava/util/Collection;)Ljava/util/List;"), (3, u "()Ljava/util/List;"), (0, .class_ 121), (0, u "java/util/SequencedCollection"), (112, u "copyOf")] 16

def k6m0 : Method := { name := "isEmpty", desc := "()Z", sig := { parameters := [], returnType := some .boolean }, accessFlags := 1025, code := none }
def k6c1 : Code := { maxStack := 1, maxLocals := 0, code := jdk_40_method_36_code, exceptionTable := #[], attributes := #[] }
def k6m1 : Method := { name := "of", desc := "()Ljava/util/List;", sig := { parameters := [], returnType := some (.object "java/util/List") }, accessFlags := 9, code := some k6c1 }
def k6c2 : Code := { maxStack := 5, maxLocals := 2, code := jdk_40_method_47_code, exceptionTable := #[], attributes := #[] }
def k6m2 : Method := { name := "of", desc := "([Ljava/lang/Object;)Ljava/util/List;", sig := { parameters := [(.array (.object "java/lang/Object"))], returnType := some (.object "java/util/List") }, accessFlags := 137, code := some k6c2 }
def k6c3 : Code := { maxStack := 1, maxLocals := 1, code := jdk_40_method_48_code, exceptionTable := #[], attributes := #[] }
def k6m3 : Method := { name := "copyOf", desc := "(Ljava/util/Collection;)Ljava/util/List;", sig := { parameters := [(.object "java/util/Collection")], returnType := some (.object "java/util/List") }, accessFlags := 9, code := some k6c3 }
/-- java/util/List -/
def k6 : Class := { plain "java/util/List" (some 0) with
  accessFlags := 1537
  interfaces := #[5]
  cf := some (fileOf pool6 8 #[] #[{ accessFlags := 1025, nameIndex := 67, descriptorIndex := 18, attributes := #[] }, { accessFlags := 9, nameIndex := 88, descriptorIndex := 119, attributes := #[] }, { accessFlags := 137, nameIndex := 88, descriptorIndex := 108, attributes := #[] }, { accessFlags := 9, nameIndex := 234, descriptorIndex := 115, attributes := #[] }] 1537 103 #[120] #[])
  fields := #[]
  methods := #[k6m0, k6m1, k6m2, k6m3]
  instanceTypes := #[]
  staticTypes := #[]
  resolved := Array.replicate 251 none
  statics := none }

def pool7 : Array CpInfo := pool [(1, .methodref 2 3), (0, .class_ 4), (0, .nameAndType 5 6), (0, u "java/util/AbstractCollection"), (0, u "<init>"), (0, u "()V"), (0, .fieldref 8 9), (0, .class_ 10), (0, .nameAndType 11 12), (0, u "java/util/AbstractList"), (0, u "modCount"), (0, u "I"), (64, .class_ 78), (0, u "java/util/AbstractList$Itr"), (3, .class_ 83), (0, u "java/util/AbstractList$ListItr"), (9, .class_ 94), (0, u "java/util/AbstractList$RandomAccessSubList"), (3, .class_ 99), (0, u "java/util/AbstractList$SubList"), (33, .class_ 134), (0, u "java/util/List"), (73, .class_ 209), (0, u "java/util/AbstractList$SubList$1"), (0, .class_ 211), (0, u "java/util/AbstractList$RandomAccessSpliterator")] 6

def k7c0 : Code := { maxStack := 2, maxLocals := 1, code := jdk_39_method_1_code, exceptionTable := #[], attributes := #[] }
def k7m0 : Method := { name := "<init>", desc := "()V", sig := { parameters := [], returnType := none }, accessFlags := 4, code := some k7c0 }
/-- java/util/AbstractList -/
def k7 : Class := { plain "java/util/AbstractList" (some 4) with
  accessFlags := 1057
  interfaces := #[6]
  cf := some (fileOf pool7 8 #[.nestMembers #[93, 98, 208, 210, 82, 77]] #[{ accessFlags := 4, nameIndex := 5, descriptorIndex := 6, attributes := #[] }] 1057 2 #[133] #[{ accessFlags := 132, nameIndex := 11, descriptorIndex := 12, attributes := #[] }])
  fields := #[{ name := "modCount", type := .int, accessFlags := 132, slot := 0, constantValue := 0 }]
  methods := #[k7m0]
  instanceTypes := #[.int]
  staticTypes := #[]
  resolved := Array.replicate 218 none
  statics := none }

def pool8 : Array CpInfo := pool [(1, .class_ 2), (0, u "java/util/RandomAccess"), (0, .class_ 4), (0, u "java/lang/Object")] 2

/-- java/util/RandomAccess -/
def k8 : Class := { plain "java/util/RandomAccess" (some 0) with
  accessFlags := 1537
  interfaces := #[]
  cf := some (fileOf pool8 1 #[] #[] 1537 3 #[] #[])
  fields := #[]
  methods := #[]
  instanceTypes := #[]
  staticTypes := #[]
  resolved := Array.replicate 7 none
  statics := none }

def pool9 : Array CpInfo := pool [(1, .class_ 2), (0, u "java/lang/Cloneable"), (0, .class_ 4), (0, u "java/lang/Object")] 2

/-- java/lang/Cloneable -/
def k9 : Class := { plain "java/lang/Cloneable" (some 0) with
  accessFlags := 1537
  interfaces := #[]
  cf := some (fileOf pool9 1 #[] #[] 1537 3 #[] #[])
  fields := #[]
  methods := #[]
  instanceTypes := #[]
  staticTypes := #[]
  resolved := Array.replicate 7 none
  statics := none }

def pool10 : Array CpInfo := pool [(1, .class_ 2), (0, u "java/io/Serializable"), (0, .class_ 4), (0, u "java/lang/Object")] 2

/-- java/io/Serializable -/
def k10 : Class := { plain "java/io/Serializable" (some 0) with
  accessFlags := 1537
  interfaces := #[]
  cf := some (fileOf pool10 1 #[] #[] 1537 3 #[] #[])
  fields := #[]
  methods := #[]
  instanceTypes := #[]
  staticTypes := #[]
  resolved := Array.replicate 7 none
  statics := none }

def pool11 : Array CpInfo := pool [(1, .methodref 2 3), (0, .class_ 4), (0, .nameAndType 5 6), (0, u "java/util/AbstractList"), (0, u "<init>"), (0, u "()V"), (0, .class_ 8), (0, u "java/lang/Object"), (0, .fieldref 10 11), (0, .class_ 12), (0, .nameAndType 13 14), (0, u "java/util/ArrayList"), (0, u "elementData"), (0, u "[Ljava/lang/Object;"), (2, u "EMPTY_ELEMENTDATA"), (21, .fieldref 10 40), (0, .nameAndType 41 14), (0, u "DEFAULTCAPACITY_EMPTY_ELEMENTDATA"), (4, u "toArray"), (0, u "()[Ljava/lang/Object;"), (0, .fieldref 10 49), (0, .nameAndType 50 51), (0, u "size"), (0, u "I"), (6, .class_ 60), (1, u "java/util/Arrays"), (0, u "copyOf"), (1, .fieldref 10 64), (0, .nameAndType 65 51), (0, u "modCount"), (0, .methodref 58 67), (0, .nameAndType 61 68), (0, u "([Ljava/lang/Object;I)[Ljava/lang/Object;"), (0, .methodref 10 70), (0, .nameAndType 71 72), (0, u "grow"), (0, u "(I)[Ljava/lang/Object;"), (6, .methodref 80 81), (0, .class_ 82), (0, .nameAndType 83 84), (0, u "java/lang/Math"), (0, u "max"), (0, u "(II)I"), (11, u "(Ljava/lang/Object;)Z"), (32, .methodref 10 130), (0, .nameAndType 71 47), (0, .methodref 10 132), (0, .nameAndType 133 134), (0, u "add"), (0, u "(Ljava/lang/Object;[Ljava/lang/Object;I)V"), (13, .class_ 149), (0, u "java/util/List"), (23, u "()Z"), (88, .class_ 263), (0, u "java/util/ArrayList$ListItr"), (3, .class_ 268), (0, u "java/util/ArrayList$Itr"), (7, .class_ 277), (0, u "java/util/ArrayList$SubList"), (12, .class_ 291), (0, u "java/util/ArrayList$ArrayListSpliterator"), (37, .class_ 330), (0, u "java/util/RandomAccess"), (0, .class_ 332), (0, u "java/lang/Cloneable"), (0, .class_ 334), (0, u "java/io/Serializable"), (0, u "serialVersionUID"), (0, u "J"), (3, u "DEFAULT_CAPACITY"), (22, u "isEmpty"), (136, .class_ 501), (0, u "java/util/ArrayList$SubList$2"), (0, .class_ 503), (0, u "java/util/ArrayList$SubList$1")] 5

def k11c0 : Code := { maxStack := 2, maxLocals := 1, code := jdk_38_method_2_code, exceptionTable := #[], attributes := #[] }
def k11m0 : Method := { name := "<init>", desc := "()V", sig := { parameters := [], returnType := none }, accessFlags := 1, code := some k11c0 }
def k11c1 : Code := { maxStack := 4, maxLocals := 4, code := jdk_38_method_6_code, exceptionTable := #[], attributes := #[] }
def k11m1 : Method := { name := "grow", desc := "(I)[Ljava/lang/Object;", sig := { parameters := [.int], returnType := some (.array (.object "java/lang/Object")) }, accessFlags := 2, code := some k11c1 }
def k11c2 : Code := { maxStack := 3, maxLocals := 1, code := jdk_38_method_7_code, exceptionTable := #[], attributes := #[] }
def k11m2 : Method := { name := "grow", desc := "()[Ljava/lang/Object;", sig := { parameters := [], returnType := some (.array (.object "java/lang/Object")) }, accessFlags := 2, code := some k11c2 }
def k11c3 : Code := { maxStack := 1, maxLocals := 1, code := jdk_38_method_9_code, exceptionTable := #[], attributes := #[] }
def k11m3 : Method := { name := "isEmpty", desc := "()Z", sig := { parameters := [], returnType := some .boolean }, accessFlags := 1, code := some k11c3 }
def k11c4 : Code := { maxStack := 2, maxLocals := 1, code := jdk_38_method_16_code, exceptionTable := #[], attributes := #[] }
def k11m4 : Method := { name := "toArray", desc := "()[Ljava/lang/Object;", sig := { parameters := [], returnType := some (.array (.object "java/lang/Object")) }, accessFlags := 1, code := some k11c4 }
def k11c5 : Code := { maxStack := 3, maxLocals := 4, code := jdk_38_method_24_code, exceptionTable := #[], attributes := #[] }
def k11m5 : Method := { name := "add", desc := "(Ljava/lang/Object;[Ljava/lang/Object;I)V", sig := { parameters := [(.object "java/lang/Object"), (.array (.object "java/lang/Object")), .int], returnType := none }, accessFlags := 2, code := some k11c5 }
def k11c6 : Code := { maxStack := 4, maxLocals := 2, code := jdk_38_method_25_code, exceptionTable := #[], attributes := #[] }
def k11m6 : Method := { name := "add", desc := "(Ljava/lang/Object;)Z", sig := { parameters := [(.object "java/lang/Object")], returnType := some .boolean }, accessFlags := 1, code := some k11c6 }
/-- java/util/ArrayList -/
def k11 : Class := { plain "java/util/ArrayList" (some 7) with
  accessFlags := 33
  interfaces := #[6, 8, 9, 10]
  cf := some (fileOf pool11 10 #[.nestMembers #[290, 276, 500, 502, 262, 267]] #[{ accessFlags := 1, nameIndex := 5, descriptorIndex := 6, attributes := #[] }, { accessFlags := 2, nameIndex := 71, descriptorIndex := 72, attributes := #[] }, { accessFlags := 2, nameIndex := 71, descriptorIndex := 47, attributes := #[] }, { accessFlags := 1, nameIndex := 363, descriptorIndex := 173, attributes := #[] }, { accessFlags := 1, nameIndex := 46, descriptorIndex := 47, attributes := #[] }, { accessFlags := 2, nameIndex := 133, descriptorIndex := 134, attributes := #[] }, { accessFlags := 1, nameIndex := 133, descriptorIndex := 96, attributes := #[] }] 33 2 #[148, 329, 331, 333] #[{ accessFlags := 26, nameIndex := 335, descriptorIndex := 336, attributes := #[] }, { accessFlags := 26, nameIndex := 340, descriptorIndex := 51, attributes := #[] }, { accessFlags := 26, nameIndex := 17, descriptorIndex := 14, attributes := #[] }, { accessFlags := 26, nameIndex := 41, descriptorIndex := 14, attributes := #[] }, { accessFlags := 128, nameIndex := 13, descriptorIndex := 14, attributes := #[] }, { accessFlags := 2, nameIndex := 50, descriptorIndex := 51, attributes := #[] }])
  fields := #[{ name := "serialVersionUID", type := .long, accessFlags := 26, slot := 0, constantValue := 0 }, { name := "DEFAULT_CAPACITY", type := .int, accessFlags := 26, slot := 1, constantValue := 0 }, { name := "EMPTY_ELEMENTDATA", type := (.array (.object "java/lang/Object")), accessFlags := 26, slot := 2, constantValue := 0 }, { name := "DEFAULTCAPACITY_EMPTY_ELEMENTDATA", type := (.array (.object "java/lang/Object")), accessFlags := 26, slot := 3, constantValue := 0 }, { name := "elementData", type := (.array (.object "java/lang/Object")), accessFlags := 128, slot := 1, constantValue := 0 }, { name := "size", type := .int, accessFlags := 2, slot := 2, constantValue := 0 }]
  methods := #[k11m0, k11m1, k11m2, k11m3, k11m4, k11m5, k11m6]
  instanceTypes := #[.int, (.array (.object "java/lang/Object")), .int]
  staticTypes := #[.long, .int, (.array (.object "java/lang/Object")), (.array (.object "java/lang/Object"))]
  resolved := Array.replicate 509 none
  statics := some 0 }

def pool12 : Array CpInfo := pool [(1, .methodref 2 3), (0, .class_ 4), (0, .nameAndType 5 6), (0, u "java/lang/Object"), (0, u "<init>"), (0, u "()V"), (0, .interfaceMethodref 8 9), (0, .class_ 10), (0, .nameAndType 11 12), (0, u "java/util/List"), (0, u "copyOf"), (0, u "(Ljava/util/Collection;)Ljava/util/List;"), (0, .fieldref 14 15), (0, .class_ 16), (0, .nameAndType 17 18), (0, u "com/example/tinlet/tinlet/deploy/descriptor/FragmentNames"), (0, u "names"), (0, u "Ljava/util/List;"), (0, .fieldref 14 20), (0, .nameAndType 21 22), (0, u "othersAt"), (0, u "I"), (0, .interfaceMethodref 8 24), (0, .nameAndType 25 26), (0, u "isEmpty"), (0, u "()Z"), (6, u "(Ljava/util/List;I)V"), (2, u "NONE"), (0, u "Lcom/example/tinlet/tinlet/deploy/descriptor/FragmentNames;"), (6, u "hasOthers")] 5

def k12c0 : Code := { maxStack := 2, maxLocals := 3, code := prog_7_method_1_code, exceptionTable := #[], attributes := #[] }
def k12m0 : Method := { name := "<init>", desc := "(Ljava/util/List;I)V", sig := { parameters := [(.object "java/util/List"), .int], returnType := none }, accessFlags := 1, code := some k12c0 }
def k12c1 : Code := { maxStack := 1, maxLocals := 1, code := prog_7_method_3_code, exceptionTable := #[], attributes := #[] }
def k12m1 : Method := { name := "hasOthers", desc := "()Z", sig := { parameters := [], returnType := some .boolean }, accessFlags := 1, code := some k12c1 }
def k12c2 : Code := { maxStack := 1, maxLocals := 1, code := prog_7_method_5_code, exceptionTable := #[], attributes := #[] }
def k12m2 : Method := { name := "isEmpty", desc := "()Z", sig := { parameters := [], returnType := some .boolean }, accessFlags := 1, code := some k12c2 }
/-- com/example/tinlet/tinlet/deploy/descriptor/FragmentNames -/
def k12 : Class := { plain "com/example/tinlet/tinlet/deploy/descriptor/FragmentNames" (some 0) with
  accessFlags := 33
  interfaces := #[]
  cf := some (fileOf pool12 14 #[] #[{ accessFlags := 1, nameIndex := 5, descriptorIndex := 33, attributes := #[] }, { accessFlags := 1, nameIndex := 44, descriptorIndex := 26, attributes := #[] }, { accessFlags := 1, nameIndex := 25, descriptorIndex := 26, attributes := #[] }] 33 2 #[] #[{ accessFlags := 25, nameIndex := 36, descriptorIndex := 37, attributes := #[] }, { accessFlags := 18, nameIndex := 17, descriptorIndex := 18, attributes := #[] }, { accessFlags := 18, nameIndex := 21, descriptorIndex := 22, attributes := #[] }])
  fields := #[{ name := "NONE", type := (.object "com/example/tinlet/tinlet/deploy/descriptor/FragmentNames"), accessFlags := 25, slot := 0, constantValue := 0 }, { name := "names", type := (.object "java/util/List"), accessFlags := 18, slot := 0, constantValue := 0 }, { name := "othersAt", type := .int, accessFlags := 18, slot := 1, constantValue := 0 }]
  methods := #[k12m0, k12m1, k12m2]
  instanceTypes := #[(.object "java/util/List"), .int]
  staticTypes := #[(.object "com/example/tinlet/tinlet/deploy/descriptor/FragmentNames")]
  resolved := Array.replicate 50 none
  statics := none }

def pool13 : Array CpInfo := pool [(2, .class_ 4), (1, u "java/lang/Object"), (0, u "<init>"), (0, u "()V"), (3, .class_ 11), (0, u "java/util/ImmutableCollections$List12"), (0, .class_ 13), (0, u "java/util/ImmutableCollections$ListN"), (3, u "Z"), (0, .class_ 19), (0, u "java/util/List"), (0, .interfaceMethodref 21 22), (0, .class_ 23), (0, .nameAndType 24 25), (0, u "java/util/Collection"), (0, u "isEmpty"), (0, u "()Z"), (0, .interfaceMethodref 18 27), (0, .nameAndType 28 29), (0, u "of"), (0, u "()Ljava/util/List;"), (0, .interfaceMethodref 21 31), (0, .nameAndType 32 33), (0, u "toArray"), (0, u "()[Ljava/lang/Object;"), (0, .interfaceMethodref 18 35), (0, .nameAndType 28 36), (0, u "([Ljava/lang/Object;)Ljava/util/List;"), (0, .methodref 38 39), (0, .class_ 40), (0, .nameAndType 41 42), (0, u "java/util/Objects"), (0, u "requireNonNull"), (0, u "(Ljava/lang/Object;)Ljava/lang/Object;"), (0, .methodref 12 44), (0, .nameAndType 5 45), (0, u "([Ljava/lang/Object;Z)V"), (1, .class_ 49), (1, u "java/util/ImmutableCollections"), (0, u "$assertionsDisabled"), (5, u "[Ljava/lang/Object;"), (5, u "EMPTY_LIST"), (0, u "Ljava/util/ImmutableCollections$ListN;"), (8, u "EMPTY_LIST_NULLS"), (22, u "SALT32L"), (0, u "J"), (2, u "REVERSE"), (6, u "archivedObjects"), (2, u "EMPTY"), (0, u "Ljava/lang/Object;"), (0, .class_ 112), (0, u "java/util/ImmutableCollections$SetN"), (5, u "EMPTY_SET"), (0, u "Ljava/util/ImmutableCollections$SetN;"), (0, .class_ 121), (0, u "java/util/ImmutableCollections$MapN"), (3, u "EMPTY_MAP"), (0, u "Ljava/util/ImmutableCollections$MapN;"), (4, u "EXPAND_FACTOR"), (0, u "I"), (9, u "listCopy"), (0, u "(Ljava/util/Collection;)Ljava/util/List;"), (7, u "listFromArray"), (17, .class_ 170), (0, u "java/util/ImmutableCollections$MapN$MapNIterator"), (0, .class_ 172), (0, u "java/util/ImmutableCollections$MapN$1"), (0, .class_ 174), (0, u "java/util/ImmutableCollections$Map1"), (0, .class_ 176), (0, u "java/util/ImmutableCollections$AbstractImmutableMap"), (0, .class_ 178), (0, u "java/util/ImmutableCollections$SetN$SetNIterator"), (0, .class_ 180), (0, u "java/util/ImmutableCollections$Set12"), (0, .class_ 182), (0, u "java/util/ImmutableCollections$Set12$1"), (0, .class_ 184), (0, u "java/util/ImmutableCollections$AbstractImmutableSet"), (0, .class_ 186), (0, u "java/util/ImmutableCollections$SubList"), (0, .class_ 188), (0, u "java/util/ImmutableCollections$ListItr"), (0, .class_ 190), (0, u "java/util/ImmutableCollections$AbstractImmutableList"), (0, .class_ 192), (0, u "java/util/ImmutableCollections$AbstractImmutableCollection"), (0, .class_ 194), (0, u "java/util/ImmutableCollections$Access"), (0, .class_ 196), (0, u "java/util/ImmutableCollections$Access$1")] 16

def k13m0 : Method := { name := "<init>", desc := "()V", sig := { parameters := [], returnType := none }, accessFlags := 2, code := none }
def k13c1 : Code := { maxStack := 1, maxLocals := 2, code := jdk_56_method_3_code, exceptionTable := #[], attributes := #[] }
def k13m1 : Method := { name := "listCopy", desc := "(Ljava/util/Collection;)Ljava/util/List;", sig := { parameters := [(.object "java/util/Collection")], returnType := some (.object "java/util/List") }, accessFlags := 8, code := some k13c1 }
def k13c2 : Code := { maxStack := 4, maxLocals := 3, code := jdk_56_method_4_code, exceptionTable := #[], attributes := #[] }
def k13m2 : Method := { name := "listFromArray", desc := "([Ljava/lang/Object;)Ljava/util/List;", sig := { parameters := [(.array (.object "java/lang/Object"))], returnType := some (.object "java/util/List") }, accessFlags := 136, code := some k13c2 }
/-- java/util/ImmutableCollections -/
def k13 : Class := { plain "java/util/ImmutableCollections" (some 0) with
  accessFlags := 32
  interfaces := #[]
  cf := some (fileOf pool13 47 #[.nestMembers #[120, 169, 171, 173, 175, 111, 177, 179, 181, 183, 12, 10, 185, 187, 189, 191, 193, 195]] #[{ accessFlags := 2, nameIndex := 5, descriptorIndex := 6, attributes := #[] }, { accessFlags := 8, nameIndex := 142, descriptorIndex := 143, attributes := #[] }, { accessFlags := 136, nameIndex := 151, descriptorIndex := 36, attributes := #[] }] 32 2 #[] #[{ accessFlags := 26, nameIndex := 95, descriptorIndex := 96, attributes := #[] }, { accessFlags := 26, nameIndex := 99, descriptorIndex := 17, attributes := #[] }, { accessFlags := 10, nameIndex := 106, descriptorIndex := 56, attributes := #[] }, { accessFlags := 26, nameIndex := 109, descriptorIndex := 110, attributes := #[] }, { accessFlags := 24, nameIndex := 62, descriptorIndex := 63, attributes := #[] }, { accessFlags := 24, nameIndex := 72, descriptorIndex := 63, attributes := #[] }, { accessFlags := 24, nameIndex := 118, descriptorIndex := 119, attributes := #[] }, { accessFlags := 24, nameIndex := 125, descriptorIndex := 126, attributes := #[] }, { accessFlags := 24, nameIndex := 131, descriptorIndex := 132, attributes := #[] }, { accessFlags := 4120, nameIndex := 50, descriptorIndex := 17, attributes := #[] }])
  fields := #[{ name := "SALT32L", type := .long, accessFlags := 26, slot := 0, constantValue := 0 }, { name := "REVERSE", type := .boolean, accessFlags := 26, slot := 1, constantValue := 0 }, { name := "archivedObjects", type := (.array (.object "java/lang/Object")), accessFlags := 10, slot := 2, constantValue := 0 }, { name := "EMPTY", type := (.object "java/lang/Object"), accessFlags := 26, slot := 3, constantValue := 0 }, { name := "EMPTY_LIST", type := (.object "java/util/ImmutableCollections$ListN"), accessFlags := 24, slot := 4, constantValue := 0 }, { name := "EMPTY_LIST_NULLS", type := (.object "java/util/ImmutableCollections$ListN"), accessFlags := 24, slot := 5, constantValue := 0 }, { name := "EMPTY_SET", type := (.object "java/util/ImmutableCollections$SetN"), accessFlags := 24, slot := 6, constantValue := 0 }, { name := "EMPTY_MAP", type := (.object "java/util/ImmutableCollections$MapN"), accessFlags := 24, slot := 7, constantValue := 0 }, { name := "EXPAND_FACTOR", type := .int, accessFlags := 24, slot := 8, constantValue := 0 }, { name := "$assertionsDisabled", type := .boolean, accessFlags := 4120, slot := 9, constantValue := 0 }]
  methods := #[k13m0, k13m1, k13m2]
  instanceTypes := #[]
  staticTypes := #[.long, .boolean, (.array (.object "java/lang/Object")), (.object "java/lang/Object"), (.object "java/util/ImmutableCollections$ListN"), (.object "java/util/ImmutableCollections$ListN"), (.object "java/util/ImmutableCollections$SetN"), (.object "java/util/ImmutableCollections$MapN"), .int, .boolean]
  resolved := Array.replicate 213 none
  statics := some 1 }

def pool14 : Array CpInfo := pool [(1, .methodref 2 3), (0, .class_ 4), (0, .nameAndType 5 6), (0, u "java/util/AbstractCollection"), (0, u "<init>"), (0, u "()V"), (1, .class_ 10), (1, u "java/util/ImmutableCollections"), (2, .class_ 14), (0, u "java/util/ImmutableCollections$AbstractImmutableCollection")] 41

def k14c0 : Code := { maxStack := 1, maxLocals := 1, code := jdk_47_method_1_code, exceptionTable := #[], attributes := #[] }
def k14m0 : Method := { name := "<init>", desc := "()V", sig := { parameters := [], returnType := none }, accessFlags := 0, code := some k14c0 }
/-- java/util/ImmutableCollections$AbstractImmutableCollection -/
def k14 : Class := { plain "java/util/ImmutableCollections$AbstractImmutableCollection" (some 4) with
  accessFlags := 1056
  interfaces := #[]
  cf := some (fileOf pool14 13 #[.nestHost 8] #[{ accessFlags := 0, nameIndex := 5, descriptorIndex := 6, attributes := #[] }] 1056 2 #[] #[])
  fields := #[]
  methods := #[k14m0]
  instanceTypes := #[]
  staticTypes := #[]
  resolved := Array.replicate 56 none
  statics := none }

def pool15 : Array CpInfo := pool [(1, .methodref 2 3), (0, .class_ 4), (0, .nameAndType 5 6), (0, u "java/util/ImmutableCollections$AbstractImmutableCollection"), (0, u "<init>"), (0, u "()V"), (1, .class_ 10), (1, u "java/util/ImmutableCollections"), (3, .class_ 16), (1, u "java/util/ImmutableCollections$AbstractImmutableList"), (60, .class_ 78), (0, u "java/util/List"), (45, .class_ 125), (0, u "java/util/RandomAccess")] 70

def k15c0 : Code := { maxStack := 1, maxLocals := 1, code := jdk_46_method_1_code, exceptionTable := #[], attributes := #[] }
def k15m0 : Method := { name := "<init>", desc := "()V", sig := { parameters := [], returnType := none }, accessFlags := 0, code := some k15c0 }
/-- java/util/ImmutableCollections$AbstractImmutableList -/
def k15 : Class := { plain "java/util/ImmutableCollections$AbstractImmutableList" (some 14) with
  accessFlags := 1056
  interfaces := #[6, 8]
  cf := some (fileOf pool15 14 #[.nestHost 8] #[{ accessFlags := 0, nameIndex := 5, descriptorIndex := 6, attributes := #[] }] 1056 2 #[77, 124] #[])
  fields := #[]
  methods := #[k15m0]
  instanceTypes := #[]
  staticTypes := #[]
  resolved := Array.replicate 196 none
  statics := none }

def pool16 : Array CpInfo := pool [(1, .methodref 2 3), (0, .class_ 4), (0, .nameAndType 5 6), (0, u "java/util/ImmutableCollections$AbstractImmutableList"), (0, u "<init>"), (0, u "()V"), (0, .methodref 8 9), (0, .class_ 10), (0, .nameAndType 11 12), (0, u "java/util/Objects"), (0, u "requireNonNull"), (0, u "(Ljava/lang/Object;)Ljava/lang/Object;"), (0, .fieldref 14 15), (0, .class_ 16), (0, .nameAndType 17 18), (0, u "java/util/ImmutableCollections$List12"), (0, u "e0"), (0, u "Ljava/lang/Object;"), (0, .fieldref 20 21), (0, .class_ 22), (0, .nameAndType 23 18), (0, u "java/util/ImmutableCollections"), (0, u "EMPTY"), (0, .fieldref 14 25), (0, .nameAndType 26 18), (0, u "e1"), (43, .class_ 71), (0, u "java/io/Serializable"), (4, u "(Ljava/lang/Object;)V"), (8, u "(Ljava/lang/Object;Ljava/lang/Object;)V")] 39

def k16c0 : Code := { maxStack := 2, maxLocals := 2, code := jdk_44_method_1_code, exceptionTable := #[], attributes := #[] }
def k16m0 : Method := { name := "<init>", desc := "(Ljava/lang/Object;)V", sig := { parameters := [(.object "java/lang/Object")], returnType := none }, accessFlags := 0, code := some k16c0 }
def k16c1 : Code := { maxStack := 2, maxLocals := 3, code := jdk_44_method_2_code, exceptionTable := #[], attributes := #[] }
def k16m1 : Method := { name := "<init>", desc := "(Ljava/lang/Object;Ljava/lang/Object;)V", sig := { parameters := [(.object "java/lang/Object"), (.object "java/lang/Object")], returnType := none }, accessFlags := 0, code := some k16c1 }
/-- java/util/ImmutableCollections$List12 -/
def k16 : Class := { plain "java/util/ImmutableCollections$List12" (some 15) with
  accessFlags := 48
  interfaces := #[10]
  cf := some (fileOf pool16 14 #[.nestHost 20] #[{ accessFlags := 0, nameIndex := 5, descriptorIndex := 76, attributes := #[] }, { accessFlags := 0, nameIndex := 5, descriptorIndex := 85, attributes := #[] }] 48 2 #[70] #[{ accessFlags := 18, nameIndex := 17, descriptorIndex := 18, attributes := #[] }, { accessFlags := 18, nameIndex := 26, descriptorIndex := 18, attributes := #[] }])
  fields := #[{ name := "e0", type := (.object "java/lang/Object"), accessFlags := 18, slot := 0, constantValue := 0 }, { name := "e1", type := (.object "java/lang/Object"), accessFlags := 18, slot := 1, constantValue := 0 }]
  methods := #[k16m0, k16m1]
  instanceTypes := #[(.object "java/lang/Object"), (.object "java/lang/Object")]
  staticTypes := #[]
  resolved := Array.replicate 125 none
  statics := none }

def pool17 : Array CpInfo := pool [(1, .methodref 2 3), (0, .class_ 4), (0, .nameAndType 5 6), (0, u "java/util/ImmutableCollections$AbstractImmutableList"), (0, u "<init>"), (0, u "()V"), (0, .fieldref 8 9), (0, .class_ 10), (0, .nameAndType 11 12), (0, u "java/util/ImmutableCollections$ListN"), (0, u "elements"), (0, u "[Ljava/lang/Object;"), (0, .fieldref 8 14), (0, .nameAndType 15 16), (0, u "allowNulls"), (0, u "Z"), (42, .class_ 60), (0, u "java/io/Serializable"), (4, u "([Ljava/lang/Object;Z)V"), (8, u "isEmpty"), (0, u "()Z"), (38, .class_ 115), (0, u "java/util/ImmutableCollections")] 3

def k17c0 : Code := { maxStack := 2, maxLocals := 3, code := jdk_45_method_1_code, exceptionTable := #[], attributes := #[] }
def k17m0 : Method := { name := "<init>", desc := "([Ljava/lang/Object;Z)V", sig := { parameters := [(.array (.object "java/lang/Object")), .boolean], returnType := none }, accessFlags := 2, code := some k17c0 }
def k17c1 : Code := { maxStack := 1, maxLocals := 1, code := jdk_45_method_2_code, exceptionTable := #[], attributes := #[] }
def k17m1 : Method := { name := "isEmpty", desc := "()Z", sig := { parameters := [], returnType := some .boolean }, accessFlags := 1, code := some k17c1 }
/-- java/util/ImmutableCollections$ListN -/
def k17 : Class := { plain "java/util/ImmutableCollections$ListN" (some 15) with
  accessFlags := 48
  interfaces := #[10]
  cf := some (fileOf pool17 8 #[.nestHost 114] #[{ accessFlags := 2, nameIndex := 5, descriptorIndex := 65, attributes := #[] }, { accessFlags := 1, nameIndex := 74, descriptorIndex := 75, attributes := #[] }] 48 2 #[59] #[{ accessFlags := 18, nameIndex := 11, descriptorIndex := 12, attributes := #[] }, { accessFlags := 18, nameIndex := 15, descriptorIndex := 16, attributes := #[] }])
  fields := #[{ name := "elements", type := (.array (.object "java/lang/Object")), accessFlags := 18, slot := 0, constantValue := 0 }, { name := "allowNulls", type := .boolean, accessFlags := 18, slot := 1, constantValue := 0 }]
  methods := #[k17m0, k17m1]
  instanceTypes := #[(.array (.object "java/lang/Object")), .boolean]
  staticTypes := #[]
  resolved := Array.replicate 119 none
  statics := none }

def pool18 : Array CpInfo := pool [(1, .class_ 2), (0, u "java/lang/Comparable"), (0, .class_ 4), (0, u "java/lang/Object")] 7

/-- java/lang/Comparable -/
def k18 : Class := { plain "java/lang/Comparable" (some 0) with
  accessFlags := 1537
  interfaces := #[]
  cf := some (fileOf pool18 1 #[] #[] 1537 3 #[] #[])
  fields := #[]
  methods := #[]
  instanceTypes := #[]
  staticTypes := #[]
  resolved := Array.replicate 12 none
  statics := none }

def pool19 : Array CpInfo := pool [(2, .class_ 4), (1, u "java/lang/CharSequence"), (42, .class_ 48), (0, u "java/lang/CharSequence$1CodePointIterator"), (10, .class_ 60), (0, u "java/lang/CharSequence$1CharIterator"), (5, .class_ 67), (0, u "java/lang/Object")] 63

/-- java/lang/CharSequence -/
def k19 : Class := { plain "java/lang/CharSequence" (some 0) with
  accessFlags := 1537
  interfaces := #[]
  cf := some (fileOf pool19 2 #[.nestMembers #[47, 59]] #[] 1537 66 #[] #[])
  fields := #[]
  methods := #[]
  instanceTypes := #[]
  staticTypes := #[]
  resolved := Array.replicate 131 none
  statics := none }

def pool20 : Array CpInfo := pool [(1, .class_ 2), (0, u "java/lang/constant/Constable"), (0, .class_ 4), (0, u "java/lang/Object")] 6

/-- java/lang/constant/Constable -/
def k20 : Class := { plain "java/lang/constant/Constable" (some 0) with
  accessFlags := 1537
  interfaces := #[]
  cf := some (fileOf pool20 1 #[] #[] 1537 3 #[] #[])
  fields := #[]
  methods := #[]
  instanceTypes := #[]
  staticTypes := #[]
  resolved := Array.replicate 11 none
  statics := none }

def pool21 : Array CpInfo := pool [(1, .class_ 2), (0, u "java/lang/constant/ConstantDesc"), (0, .class_ 4), (0, u "java/lang/Object")] 32

/-- java/lang/constant/ConstantDesc -/
def k21 : Class := { plain "java/lang/constant/ConstantDesc" (some 0) with
  accessFlags := 1537
  interfaces := #[]
  cf := some (fileOf pool21 1 #[] #[] 1537 3 #[] #[])
  fields := #[]
  methods := #[]
  instanceTypes := #[]
  staticTypes := #[]
  resolved := Array.replicate 37 none
  statics := none }

def pool22 : Array CpInfo := pool [(1, .methodref 2 3), (0, .class_ 4), (0, .nameAndType 5 6), (0, u "java/lang/Object"), (0, u "<init>"), (0, u "()V"), (2, .fieldref 10 11), (0, .class_ 12), (0, .nameAndType 13 14), (0, u "java/lang/String"), (0, u "value"), (0, u "[B"), (0, .fieldref 10 16), (0, .nameAndType 17 18), (0, u "coder"), (0, u "B"), (2, u "hash"), (0, u "I"), (2, u "hashIsZero"), (0, u "Z"), (11, .fieldref 10 39), (0, .nameAndType 40 26), (0, u "COMPACT_STRINGS"), (12, u "toBytes"), (53, .class_ 109), (1, u "java/lang/StringLatin1"), (99, .methodref 10 210), (0, .nameAndType 5 211), (0, u "([BB)V"), (157, u "(C)Z"), (205, .class_ 576), (0, u "java/lang/CharSequence"), (22, u "CASE_INSENSITIVE_ORDER"), (0, u "Ljava/util/Comparator;"), (181, u "valueOf"), (0, u "(C)Ljava/lang/String;"), (231, .methodref 107 1016), (0, .nameAndType 1017 369), (0, u "canEncode"), (0, .methodref 107 1019), (0, .nameAndType 53 1020), (0, u "(C)[B"), (80, u "serialPersistentFields"), (0, u "[Ljava/io/ObjectStreamField;"), (0, .class_ 1104), (0, u "java/lang/String$CaseInsensitiveComparator"), (1, .class_ 1107), (0, u "java/io/Serializable"), (0, .class_ 1109), (0, u "java/lang/Comparable"), (0, .class_ 1111), (0, u "java/lang/constant/Constable"), (0, .class_ 1113), (0, u "java/lang/constant/ConstantDesc"), (2, u "serialVersionUID"), (0, u "J"), (3, u "REPL"), (0, u "C"), (2, u "LATIN1"), (1, u "UTF16")] 323

def k22m0 : Method := { name := "<init>", desc := "()V", sig := { parameters := [], returnType := none }, accessFlags := 1, code := none }
def k22c1 : Code := { maxStack := 4, maxLocals := 1, code := jdk_42_method_139_code, exceptionTable := #[], attributes := #[] }
def k22m1 : Method := { name := "valueOf", desc := "(C)Ljava/lang/String;", sig := { parameters := [.char], returnType := some (.object "java/lang/String") }, accessFlags := 9, code := some k22c1 }
def k22c2 : Code := { maxStack := 2, maxLocals := 3, code := jdk_42_method_151_code, exceptionTable := #[], attributes := #[] }
def k22m2 : Method := { name := "<init>", desc := "([BB)V", sig := { parameters := [(.array .byte), .byte], returnType := none }, accessFlags := 0, code := some k22c2 }
/-- java/lang/String -/
def k22 : Class := { plain "java/lang/String" (some 0) with
  accessFlags := 49
  interfaces := #[10, 18, 19, 20, 21]
  cf := some (fileOf pool22 10 #[.nestMembers #[1103]] #[{ accessFlags := 1, nameIndex := 5, descriptorIndex := 6, attributes := #[] }, { accessFlags := 9, nameIndex := 782, descriptorIndex := 783, attributes := #[] }, { accessFlags := 0, nameIndex := 5, descriptorIndex := 211, attributes := #[] }] 49 2 #[1106, 1108, 575, 1110, 1112] #[{ accessFlags := 18, nameIndex := 13, descriptorIndex := 14, attributes := #[] }, { accessFlags := 18, nameIndex := 17, descriptorIndex := 18, attributes := #[] }, { accessFlags := 2, nameIndex := 21, descriptorIndex := 22, attributes := #[] }, { accessFlags := 2, nameIndex := 25, descriptorIndex := 26, attributes := #[] }, { accessFlags := 26, nameIndex := 1116, descriptorIndex := 1117, attributes := #[] }, { accessFlags := 24, nameIndex := 40, descriptorIndex := 26, attributes := #[] }, { accessFlags := 26, nameIndex := 1101, descriptorIndex := 1102, attributes := #[] }, { accessFlags := 26, nameIndex := 1121, descriptorIndex := 1122, attributes := #[] }, { accessFlags := 25, nameIndex := 599, descriptorIndex := 600, attributes := #[] }, { accessFlags := 24, nameIndex := 1125, descriptorIndex := 18, attributes := #[] }, { accessFlags := 24, nameIndex := 1127, descriptorIndex := 18, attributes := #[] }])
  fields := #[{ name := "value", type := (.array .byte), accessFlags := 18, slot := 0, constantValue := 0 }, { name := "coder", type := .byte, accessFlags := 18, slot := 1, constantValue := 0 }, { name := "hash", type := .int, accessFlags := 2, slot := 2, constantValue := 0 }, { name := "hashIsZero", type := .boolean, accessFlags := 2, slot := 3, constantValue := 0 }, { name := "serialVersionUID", type := .long, accessFlags := 26, slot := 0, constantValue := 0 }, { name := "COMPACT_STRINGS", type := .boolean, accessFlags := 24, slot := 1, constantValue := 0 }, { name := "serialPersistentFields", type := (.array (.object "java/io/ObjectStreamField")), accessFlags := 26, slot := 2, constantValue := 0 }, { name := "REPL", type := .char, accessFlags := 26, slot := 3, constantValue := 0 }, { name := "CASE_INSENSITIVE_ORDER", type := (.object "java/util/Comparator"), accessFlags := 25, slot := 4, constantValue := 0 }, { name := "LATIN1", type := .byte, accessFlags := 24, slot := 5, constantValue := 0 }, { name := "UTF16", type := .byte, accessFlags := 24, slot := 6, constantValue := 0 }]
  methods := #[k22m0, k22m1, k22m2]
  instanceTypes := #[(.array .byte), .byte, .int, .boolean]
  staticTypes := #[.long, .boolean, (.array (.object "java/io/ObjectStreamField")), .char, (.object "java/util/Comparator"), .byte, .byte]
  resolved := Array.replicate 1451 none
  statics := some 2 }

def pool23 : Array CpInfo := pool [(4, .class_ 6), (1, u "java/lang/Object"), (0, u "<init>"), (0, u "()V"), (5, .class_ 16), (1, u "java/lang/StringLatin1"), (73, u "canEncode"), (14, u "(C)Z"), (15, u "$assertionsDisabled"), (0, u "Z"), (98, .class_ 223), (1, u "java/lang/StringLatin1$LinesSpliterator"), (156, u "toBytes"), (1, u "(C)[B"), (7, .class_ 391), (0, u "java/lang/StringLatin1$CharsSpliterator")] 3

def k23m0 : Method := { name := "<init>", desc := "()V", sig := { parameters := [], returnType := none }, accessFlags := 0, code := none }
def k23c1 : Code := { maxStack := 2, maxLocals := 1, code := jdk_43_method_3_code, exceptionTable := #[], attributes := #[] }
def k23m1 : Method := { name := "canEncode", desc := "(C)Z", sig := { parameters := [.char], returnType := some .boolean }, accessFlags := 9, code := some k23c1 }
def k23c2 : Code := { maxStack := 4, maxLocals := 1, code := jdk_43_method_46_code, exceptionTable := #[], attributes := #[] }
def k23m2 : Method := { name := "toBytes", desc := "(C)[B", sig := { parameters := [.char], returnType := some (.array .byte) }, accessFlags := 9, code := some k23c2 }
/-- java/lang/StringLatin1 -/
def k23 : Class := { plain "java/lang/StringLatin1" (some 0) with
  accessFlags := 48
  interfaces := #[]
  cf := some (fileOf pool23 14 #[.nestMembers #[390, 221]] #[{ accessFlags := 0, nameIndex := 7, descriptorIndex := 8, attributes := #[] }, { accessFlags := 9, nameIndex := 90, descriptorIndex := 105, attributes := #[] }, { accessFlags := 9, nameIndex := 380, descriptorIndex := 382, attributes := #[] }] 48 4 #[] #[{ accessFlags := 4120, nameIndex := 121, descriptorIndex := 122, attributes := #[] }])
  fields := #[{ name := "$assertionsDisabled", type := .boolean, accessFlags := 4120, slot := 0, constantValue := 0 }]
  methods := #[k23m0, k23m1, k23m2]
  instanceTypes := #[]
  staticTypes := #[.boolean]
  resolved := Array.replicate 395 none
  statics := none }

def pool24 : Array CpInfo := pool [(1, .class_ 2), (0, u "java/lang/Math"), (1, .class_ 6), (1, u "java/lang/Object"), (0, u "<init>"), (0, u "()V"), (89, .class_ 100), (1, u "java/lang/Math$RandomNumberGeneratorHolder"), (71, u "negativeZeroFloatBits"), (0, u "J"), (2, u "negativeZeroDoubleBits"), (21, u "max"), (2, u "min"), (43, u "$assertionsDisabled"), (0, u "Z"), (88, u "(II)I"), (2, u "twoToTheDoubleScaleDown"), (0, u "D"), (4, u "twoToTheDoubleScaleUp"), (9, u "E"), (3, u "PI"), (2, u "TAU"), (2, u "DEGREES_TO_RADIANS"), (0, u "RADIANS_TO_DEGREES")] 94

def k24m0 : Method := { name := "<init>", desc := "()V", sig := { parameters := [], returnType := none }, accessFlags := 2, code := none }
def k24c1 : Code := { maxStack := 2, maxLocals := 2, code := jdk_29_method_65_code, exceptionTable := #[], attributes := #[] }
def k24m1 : Method := { name := "max", desc := "(II)I", sig := { parameters := [.int, .int], returnType := some .int }, accessFlags := 9, code := some k24c1 }
def k24c2 : Code := { maxStack := 2, maxLocals := 2, code := jdk_29_method_69_code, exceptionTable := #[], attributes := #[] }
def k24m2 : Method := { name := "min", desc := "(II)I", sig := { parameters := [.int, .int], returnType := some .int }, accessFlags := 9, code := some k24c2 }
/-- java/lang/Math -/
def k24 : Class := { plain "java/lang/Math" (some 0) with
  accessFlags := 49
  interfaces := #[]
  cf := some (fileOf pool24 1 #[.nestMembers #[98]] #[{ accessFlags := 2, nameIndex := 7, descriptorIndex := 8, attributes := #[] }, { accessFlags := 9, nameIndex := 198, descriptorIndex := 335, attributes := #[] }, { accessFlags := 9, nameIndex := 201, descriptorIndex := 335, attributes := #[] }] 49 4 #[] #[{ accessFlags := 25, nameIndex := 354, descriptorIndex := 339, attributes := #[] }, { accessFlags := 25, nameIndex := 358, descriptorIndex := 339, attributes := #[] }, { accessFlags := 25, nameIndex := 361, descriptorIndex := 339, attributes := #[] }, { accessFlags := 26, nameIndex := 364, descriptorIndex := 339, attributes := #[] }, { accessFlags := 26, nameIndex := 365, descriptorIndex := 339, attributes := #[] }, { accessFlags := 26, nameIndex := 172, descriptorIndex := 173, attributes := #[] }, { accessFlags := 26, nameIndex := 176, descriptorIndex := 173, attributes := #[] }, { accessFlags := 8, nameIndex := 344, descriptorIndex := 339, attributes := #[] }, { accessFlags := 8, nameIndex := 338, descriptorIndex := 339, attributes := #[] }, { accessFlags := 4120, nameIndex := 245, descriptorIndex := 246, attributes := #[] }])
  fields := #[{ name := "E", type := .double, accessFlags := 25, slot := 0, constantValue := 0 }, { name := "PI", type := .double, accessFlags := 25, slot := 1, constantValue := 0 }, { name := "TAU", type := .double, accessFlags := 25, slot := 2, constantValue := 0 }, { name := "DEGREES_TO_RADIANS", type := .double, accessFlags := 26, slot := 3, constantValue := 0 }, { name := "RADIANS_TO_DEGREES", type := .double, accessFlags := 26, slot := 4, constantValue := 0 }, { name := "negativeZeroFloatBits", type := .long, accessFlags := 26, slot := 5, constantValue := 0 }, { name := "negativeZeroDoubleBits", type := .long, accessFlags := 26, slot := 6, constantValue := 0 }, { name := "twoToTheDoubleScaleUp", type := .double, accessFlags := 8, slot := 7, constantValue := 0 }, { name := "twoToTheDoubleScaleDown", type := .double, accessFlags := 8, slot := 8, constantValue := 0 }, { name := "$assertionsDisabled", type := .boolean, accessFlags := 4120, slot := 9, constantValue := 0 }]
  methods := #[k24m0, k24m1, k24m2]
  instanceTypes := #[]
  staticTypes := #[.double, .double, .double, .double, .double, .long, .long, .double, .double, .boolean]
  resolved := Array.replicate 460 none
  statics := none }

def pool25 : Array CpInfo := pool [(2, .class_ 4), (1, u "java/lang/Object"), (0, u "<init>"), (0, u "()V"), (7, .class_ 16), (1, u "java/util/Arrays"), (57, .class_ 76), (1, u "java/util/Arrays$NaturalOrder"), (9, .methodref 2 87), (0, .nameAndType 88 89), (0, u "getClass"), (0, u "()Ljava/lang/Class;"), (20, .class_ 111), (0, u "[Ljava/lang/Object;"), (1, .class_ 115), (1, u "java/util/Arrays$LegacyMergeSort"), (1, u "Z"), (32, .methodref 151 152), (0, .class_ 153), (0, .nameAndType 154 155), (0, u "java/lang/System"), (0, u "arraycopy"), (0, u "(Ljava/lang/Object;ILjava/lang/Object;II)V"), (144, .methodref 14 301), (0, .nameAndType 302 303), (0, u "copyOf"), (0, u "([Ljava/lang/Object;ILjava/lang/Class;)[Ljava/lang/Object;"), (0, .methodref 305 306), (0, .class_ 307), (0, .nameAndType 308 309), (0, u "java/lang/Math"), (0, u "min"), (0, u "(II)I"), (65, .class_ 376), (0, u "java/util/Arrays$ArrayList"), (68, u "$assertionsDisabled"), (269, u "MIN_ARRAY_SORT_GRAN"), (0, u "I"), (2, u "INSERTIONSORT_THRESHOLD"), (140, u "([Ljava/lang/Object;I)[Ljava/lang/Object;"), (114, .class_ 976), (0, u "java/util/Arrays$ArrayItr")] 52

def k25m0 : Method := { name := "<init>", desc := "()V", sig := { parameters := [], returnType := none }, accessFlags := 2, code := none }
def k25c1 : Code := { maxStack := 3, maxLocals := 2, code := jdk_65_method_119_code, exceptionTable := #[], attributes := #[] }
def k25m1 : Method := { name := "copyOf", desc := "([Ljava/lang/Object;I)[Ljava/lang/Object;", sig := { parameters := [(.array (.object "java/lang/Object")), .int], returnType := some (.array (.object "java/lang/Object")) }, accessFlags := 9, code := some k25c1 }
def k25c2 : Code := { maxStack := 6, maxLocals := 4, code := jdk_65_method_120_code, exceptionTable := #[], attributes := #[] }
def k25m2 : Method := { name := "copyOf", desc := "([Ljava/lang/Object;ILjava/lang/Class;)[Ljava/lang/Object;", sig := { parameters := [(.array (.object "java/lang/Object")), .int, (.object "java/lang/Class")], returnType := some (.array (.object "java/lang/Object")) }, accessFlags := 9, code := some k25c2 }
/-- java/util/Arrays -/
def k25 : Class := { plain "java/util/Arrays" (some 0) with
  accessFlags := 49
  interfaces := #[]
  cf := some (fileOf pool25 14 #[.nestMembers #[975, 375, 113, 74]] #[{ accessFlags := 2, nameIndex := 5, descriptorIndex := 6, attributes := #[] }, { accessFlags := 9, nameIndex := 302, descriptorIndex := 860, attributes := #[] }, { accessFlags := 9, nameIndex := 302, descriptorIndex := 303, attributes := #[] }] 49 2 #[] #[{ accessFlags := 26, nameIndex := 715, descriptorIndex := 716, attributes := #[] }, { accessFlags := 26, nameIndex := 719, descriptorIndex := 716, attributes := #[] }, { accessFlags := 4120, nameIndex := 445, descriptorIndex := 117, attributes := #[] }])
  fields := #[{ name := "MIN_ARRAY_SORT_GRAN", type := .int, accessFlags := 26, slot := 0, constantValue := 0 }, { name := "INSERTIONSORT_THRESHOLD", type := .int, accessFlags := 26, slot := 1, constantValue := 0 }, { name := "$assertionsDisabled", type := .boolean, accessFlags := 4120, slot := 2, constantValue := 0 }]
  methods := #[k25m0, k25m1, k25m2]
  instanceTypes := #[]
  staticTypes := #[.int, .int, .boolean]
  resolved := Array.replicate 1029 none
  statics := none }

def pool26 : Array CpInfo := pool [(2, .class_ 4), (1, u "java/lang/Object"), (0, u "<init>"), (0, u "()V"), (1, .class_ 10), (1, u "java/lang/System"), (0, u "allowSecurityManager"), (0, u "I"), (16, u "cons"), (0, u "Ljava/io/Console;"), (77, .class_ 110), (1, u "java/lang/System$CallersHolder"), (43, u "initialErrStream"), (0, u "Ljava/io/PrintStream;"), (19, u "security"), (0, u "Ljava/lang/SecurityManager;"), (31, .class_ 209), (0, u "java/lang/System$1"), (7, u "props"), (0, u "Ljava/util/Properties;"), (2, u "lineSeparator"), (0, u "Ljava/lang/String;"), (96, .class_ 321), (1, u "java/lang/System$LoggerFinder"), (5, .class_ 328), (0, u "java/lang/System$Logger"), (67, u "err"), (2, u "out"), (91, u "notSupportedJnuEncoding"), (15, u "in"), (17, u "initialIn"), (0, u "Ljava/io/InputStream;"), (35, u "bootLayer"), (0, u "Ljava/lang/ModuleLayer;"), (99, .class_ 664), (0, u "java/lang/System$2"), (9, u "NEVER"), (2, u "MAYBE"), (49, u "arraycopy"), (0, u "(Ljava/lang/Object;ILjava/lang/Object;II)V"), (72, .class_ 802), (0, u "java/lang/System$Logger$Level")] 31

def k26m0 : Method := { name := "<init>", desc := "()V", sig := { parameters := [], returnType := none }, accessFlags := 2, code := none }
def k26m1 : Method := { name := "arraycopy", desc := "(Ljava/lang/Object;ILjava/lang/Object;II)V", sig := { parameters := [(.object "java/lang/Object"), .int, (.object "java/lang/Object"), .int, .int], returnType := none }, accessFlags := 265, code := none }
/-- java/lang/System -/
def k26 : Class := { plain "java/lang/System" (some 0) with
  accessFlags := 49
  interfaces := #[]
  cf := some (fileOf pool26 8 #[.nestMembers #[319, 327, 801, 108, 663, 208]] #[{ accessFlags := 2, nameIndex := 5, descriptorIndex := 6, attributes := #[] }, { accessFlags := 265, nameIndex := 727, descriptorIndex := 728, attributes := #[] }] 49 2 #[] #[{ accessFlags := 25, nameIndex := 507, descriptorIndex := 526, attributes := #[] }, { accessFlags := 25, nameIndex := 399, descriptorIndex := 155, attributes := #[] }, { accessFlags := 25, nameIndex := 396, descriptorIndex := 155, attributes := #[] }, { accessFlags := 10, nameIndex := 525, descriptorIndex := 526, attributes := #[] }, { accessFlags := 26, nameIndex := 674, descriptorIndex := 12, attributes := #[] }, { accessFlags := 26, nameIndex := 677, descriptorIndex := 12, attributes := #[] }, { accessFlags := 10, nameIndex := 11, descriptorIndex := 12, attributes := #[] }, { accessFlags := 74, nameIndex := 175, descriptorIndex := 176, attributes := #[] }, { accessFlags := 10, nameIndex := 491, descriptorIndex := 222, attributes := #[] }, { accessFlags := 74, nameIndex := 29, descriptorIndex := 30, attributes := #[] }, { accessFlags := 74, nameIndex := 154, descriptorIndex := 155, attributes := #[] }, { accessFlags := 10, nameIndex := 217, descriptorIndex := 218, attributes := #[] }, { accessFlags := 10, nameIndex := 221, descriptorIndex := 222, attributes := #[] }, { accessFlags := 8, nameIndex := 562, descriptorIndex := 563, attributes := #[] }])
  fields := #[{ name := "in", type := (.object "java/io/InputStream"), accessFlags := 25, slot := 0, constantValue := 0 }, { name := "out", type := (.object "java/io/PrintStream"), accessFlags := 25, slot := 1, constantValue := 0 }, { name := "err", type := (.object "java/io/PrintStream"), accessFlags := 25, slot := 2, constantValue := 0 }, { name := "initialIn", type := (.object "java/io/InputStream"), accessFlags := 10, slot := 3, constantValue := 0 }, { name := "NEVER", type := .int, accessFlags := 26, slot := 4, constantValue := 0 }, { name := "MAYBE", type := .int, accessFlags := 26, slot := 5, constantValue := 0 }, { name := "allowSecurityManager", type := .int, accessFlags := 10, slot := 6, constantValue := 0 }, { name := "security", type := (.object "java/lang/SecurityManager"), accessFlags := 74, slot := 7, constantValue := 0 }, { name := "notSupportedJnuEncoding", type := (.object "java/lang/String"), accessFlags := 10, slot := 8, constantValue := 0 }, { name := "cons", type := (.object "java/io/Console"), accessFlags := 74, slot := 9, constantValue := 0 }, { name := "initialErrStream", type := (.object "java/io/PrintStream"), accessFlags := 74, slot := 10, constantValue := 0 }, { name := "props", type := (.object "java/util/Properties"), accessFlags := 10, slot := 11, constantValue := 0 }, { name := "lineSeparator", type := (.object "java/lang/String"), accessFlags := 10, slot := 12, constantValue := 0 }, { name := "bootLayer", type := (.object "java/lang/ModuleLayer"), accessFlags := 8, slot := 13, constantValue := 0 }]
  methods := #[k26m0, k26m1]
  instanceTypes := #[]
  staticTypes := #[(.object "java/io/InputStream"), (.object "java/io/PrintStream"), (.object "java/io/PrintStream"), (.object "java/io/InputStream"), .int, .int, .int, (.object "java/lang/SecurityManager"), (.object "java/lang/String"), (.object "java/io/Console"), (.object "java/io/PrintStream"), (.object "java/util/Properties"), (.object "java/lang/String"), (.object "java/lang/ModuleLayer")]
  resolved := Array.replicate 834 none
  statics := none }

def pool27 : Array CpInfo := pool [(2, .class_ 4), (1, u "java/lang/Object"), (0, u "<init>"), (0, u "()V"), (35, .class_ 44), (1, u "java/util/Objects"), (0, u "requireNonNull"), (0, u "(Ljava/lang/Object;)Ljava/lang/Object;")] 137

def k27m0 : Method := { name := "<init>", desc := "()V", sig := { parameters := [], returnType := none }, accessFlags := 2, code := none }
def k27c1 : Code := { maxStack := 2, maxLocals := 1, code := jdk_31_method_10_code, exceptionTable := #[], attributes := #[] }
def k27m1 : Method := { name := "requireNonNull", desc := "(Ljava/lang/Object;)Ljava/lang/Object;", sig := { parameters := [(.object "java/lang/Object")], returnType := some (.object "java/lang/Object") }, accessFlags := 9, code := some k27c1 }
/-- java/util/Objects -/
def k27 : Class := { plain "java/util/Objects" (some 0) with
  accessFlags := 49
  interfaces := #[]
  cf := some (fileOf pool27 42 #[] #[{ accessFlags := 2, nameIndex := 5, descriptorIndex := 6, attributes := #[] }, { accessFlags := 9, nameIndex := 45, descriptorIndex := 46, attributes := #[] }] 49 2 #[] #[])
  fields := #[]
  methods := #[k27m0, k27m1]
  instanceTypes := #[]
  staticTypes := #[]
  resolved := Array.replicate 184 none
  statics := none }

def pool28 : Array CpInfo := pool [(2, .class_ 4), (1, u "java/lang/Object"), (0, u "<init>"), (0, u "()V"), (17, .class_ 26), (1, u "jdk/internal/util/Preconditions"), (28, .class_ 56), (0, u "jdk/internal/util/Preconditions$4"), (57, .class_ 115), (0, u "jdk/internal/util/Preconditions$1"), (7, u "SIOOBE_FORMATTER"), (0, u "Ljava/util/function/BiFunction;"), (0, .class_ 126), (0, u "jdk/internal/util/Preconditions$2"), (3, u "AIOOBE_FORMATTER"), (0, .class_ 132), (0, u "jdk/internal/util/Preconditions$3"), (3, u "IOOBE_FORMATTER")] 57

def k28m0 : Method := { name := "<init>", desc := "()V", sig := { parameters := [], returnType := none }, accessFlags := 1, code := none }
/-- jdk/internal/util/Preconditions -/
def k28 : Class := { plain "jdk/internal/util/Preconditions" (some 0) with
  accessFlags := 33
  interfaces := #[]
  cf := some (fileOf pool28 24 #[.nestMembers #[55, 131, 125, 114]] #[{ accessFlags := 1, nameIndex := 5, descriptorIndex := 6, attributes := #[] }] 33 2 #[] #[{ accessFlags := 25, nameIndex := 123, descriptorIndex := 124, attributes := #[] }, { accessFlags := 25, nameIndex := 130, descriptorIndex := 124, attributes := #[] }, { accessFlags := 25, nameIndex := 136, descriptorIndex := 124, attributes := #[] }])
  fields := #[{ name := "SIOOBE_FORMATTER", type := (.object "java/util/function/BiFunction"), accessFlags := 25, slot := 0, constantValue := 0 }, { name := "AIOOBE_FORMATTER", type := (.object "java/util/function/BiFunction"), accessFlags := 25, slot := 1, constantValue := 0 }, { name := "IOOBE_FORMATTER", type := (.object "java/util/function/BiFunction"), accessFlags := 25, slot := 2, constantValue := 0 }]
  methods := #[k28m0]
  instanceTypes := #[]
  staticTypes := #[(.object "java/util/function/BiFunction"), (.object "java/util/function/BiFunction"), (.object "java/util/function/BiFunction")]
  resolved := Array.replicate 194 none
  statics := some 3 }

def pool29 : Array CpInfo := pool [(9, u "<init>"), (6, .class_ 18), (1, u "java/lang/Object"), (0, u "()V"), (1, .class_ 23), (1, u "jdk/internal/util/ArraysSupport"), (0, u "LOG2_ARRAY_LONG_INDEX_SCALE"), (0, u "I"), (2, u "U"), (0, u "Ljdk/internal/misc/Unsafe;"), (8, u "BIG_ENDIAN"), (0, u "Z"), (8, u "LOG2_BYTE_BIT_SIZE"), (4, u "LOG2_ARRAY_INT_INDEX_SCALE"), (54, u "JLA"), (0, u "Ljdk/internal/access/JavaLangAccess;"), (11, u "LOG2_ARRAY_BOOLEAN_INDEX_SCALE"), (9, u "LOG2_ARRAY_BYTE_INDEX_SCALE"), (5, u "LOG2_ARRAY_CHAR_INDEX_SCALE"), (5, u "LOG2_ARRAY_SHORT_INDEX_SCALE"), (18, u "LOG2_ARRAY_FLOAT_INDEX_SCALE"), (24, u "LOG2_ARRAY_DOUBLE_INDEX_SCALE"), (89, u "T_BOOLEAN"), (2, u "T_CHAR"), (1, u "T_FLOAT"), (1, u "T_DOUBLE"), (1, u "T_BYTE"), (1, u "T_SHORT"), (1, u "T_INT"), (1, u "T_LONG"), (1, u "SOFT_MAX_ARRAY_LENGTH")] 83

def k29m0 : Method := { name := "<init>", desc := "()V", sig := { parameters := [], returnType := none }, accessFlags := 2, code := none }
/-- jdk/internal/util/ArraysSupport -/
def k29 : Class := { plain "jdk/internal/util/ArraysSupport" (some 0) with
  accessFlags := 33
  interfaces := #[]
  cf := some (fileOf pool29 21 #[] #[{ accessFlags := 2, nameIndex := 9, descriptorIndex := 19, attributes := #[] }] 33 16 #[] #[{ accessFlags := 24, nameIndex := 28, descriptorIndex := 29, attributes := #[] }, { accessFlags := 26, nameIndex := 38, descriptorIndex := 39, attributes := #[] }, { accessFlags := 25, nameIndex := 121, descriptorIndex := 25, attributes := #[] }, { accessFlags := 25, nameIndex := 131, descriptorIndex := 25, attributes := #[] }, { accessFlags := 25, nameIndex := 137, descriptorIndex := 25, attributes := #[] }, { accessFlags := 25, nameIndex := 143, descriptorIndex := 25, attributes := #[] }, { accessFlags := 25, nameIndex := 53, descriptorIndex := 25, attributes := #[] }, { accessFlags := 25, nameIndex := 24, descriptorIndex := 25, attributes := #[] }, { accessFlags := 25, nameIndex := 162, descriptorIndex := 25, attributes := #[] }, { accessFlags := 25, nameIndex := 187, descriptorIndex := 25, attributes := #[] }, { accessFlags := 26, nameIndex := 48, descriptorIndex := 25, attributes := #[] }, { accessFlags := 25, nameIndex := 277, descriptorIndex := 25, attributes := #[] }, { accessFlags := 25, nameIndex := 280, descriptorIndex := 25, attributes := #[] }, { accessFlags := 25, nameIndex := 282, descriptorIndex := 25, attributes := #[] }, { accessFlags := 25, nameIndex := 284, descriptorIndex := 25, attributes := #[] }, { accessFlags := 25, nameIndex := 286, descriptorIndex := 25, attributes := #[] }, { accessFlags := 25, nameIndex := 288, descriptorIndex := 25, attributes := #[] }, { accessFlags := 25, nameIndex := 290, descriptorIndex := 25, attributes := #[] }, { accessFlags := 25, nameIndex := 292, descriptorIndex := 25, attributes := #[] }, { accessFlags := 26, nameIndex := 108, descriptorIndex := 109, attributes := #[] }, { accessFlags := 25, nameIndex := 294, descriptorIndex := 25, attributes := #[] }])
  fields := #[{ name := "U", type := (.object "jdk/internal/misc/Unsafe"), accessFlags := 24, slot := 0, constantValue := 0 }, { name := "BIG_ENDIAN", type := .boolean, accessFlags := 26, slot := 1, constantValue := 0 }, { name := "LOG2_ARRAY_BOOLEAN_INDEX_SCALE", type := .int, accessFlags := 25, slot := 2, constantValue := 0 }, { name := "LOG2_ARRAY_BYTE_INDEX_SCALE", type := .int, accessFlags := 25, slot := 3, constantValue := 0 }, { name := "LOG2_ARRAY_CHAR_INDEX_SCALE", type := .int, accessFlags := 25, slot := 4, constantValue := 0 }, { name := "LOG2_ARRAY_SHORT_INDEX_SCALE", type := .int, accessFlags := 25, slot := 5, constantValue := 0 }, { name := "LOG2_ARRAY_INT_INDEX_SCALE", type := .int, accessFlags := 25, slot := 6, constantValue := 0 }, { name := "LOG2_ARRAY_LONG_INDEX_SCALE", type := .int, accessFlags := 25, slot := 7, constantValue := 0 }, { name := "LOG2_ARRAY_FLOAT_INDEX_SCALE", type := .int, accessFlags := 25, slot := 8, constantValue := 0 }, { name := "LOG2_ARRAY_DOUBLE_INDEX_SCALE", type := .int, accessFlags := 25, slot := 9, constantValue := 0 }, { name := "LOG2_BYTE_BIT_SIZE", type := .int, accessFlags := 26, slot := 10, constantValue := 0 }, { name := "T_BOOLEAN", type := .int, accessFlags := 25, slot := 11, constantValue := 0 }, { name := "T_CHAR", type := .int, accessFlags := 25, slot := 12, constantValue := 0 }, { name := "T_FLOAT", type := .int, accessFlags := 25, slot := 13, constantValue := 0 }, { name := "T_DOUBLE", type := .int, accessFlags := 25, slot := 14, constantValue := 0 }, { name := "T_BYTE", type := .int, accessFlags := 25, slot := 15, constantValue := 0 }, { name := "T_SHORT", type := .int, accessFlags := 25, slot := 16, constantValue := 0 }, { name := "T_INT", type := .int, accessFlags := 25, slot := 17, constantValue := 0 }, { name := "T_LONG", type := .int, accessFlags := 25, slot := 18, constantValue := 0 }, { name := "JLA", type := (.object "jdk/internal/access/JavaLangAccess"), accessFlags := 26, slot := 19, constantValue := 0 }, { name := "SOFT_MAX_ARRAY_LENGTH", type := .int, accessFlags := 25, slot := 20, constantValue := 0 }]
  methods := #[k29m0]
  instanceTypes := #[]
  staticTypes := #[(.object "jdk/internal/misc/Unsafe"), .boolean, .int, .int, .int, .int, .int, .int, .int, .int, .int, .int, .int, .int, .int, .int, .int, .int, .int, (.object "jdk/internal/access/JavaLangAccess"), .int]
  resolved := Array.replicate 378 none
  statics := none }

def pool30 : Array CpInfo := pool [(1, u "java/lang/Class"), (0, .class_ 1), (0, u "java/lang/Object"), (0, .class_ 3)] 3

/-- java/lang/Class -/
def k30 : Class := { plain "java/lang/Class" (some 0) with
  accessFlags := 49
  interfaces := #[]
  cf := some (fileOf pool30 2 #[] #[] 49 4 #[] #[])
  fields := #[]
  methods := #[]
  instanceTypes := #[]
  staticTypes := #[]
  resolved := Array.replicate 8 none
  statics := none }

/-- the primitive byte -/
def k31 : Class := { plain "byte" none with kind := .primitive 'B', accessFlags := 0x411 }
/-- [B -/
def k32 : Class := { plain "[B" (some 0) with kind := .array 31 .byte, interfaces := #[9, 10], accessFlags := 1041 }

/-- the primitive int -/
def k33 : Class := { plain "int" none with kind := .primitive 'I', accessFlags := 0x411 }
/-- [I -/
def k34 : Class := { plain "[I" (some 0) with kind := .array 33 .int, interfaces := #[9, 10], accessFlags := 1041 }

/-- [Ljava/lang/Object; -/
def k35 : Class := { plain "[Ljava/lang/Object;" (some 0) with kind := .array 0 (.object "java/lang/Object"), interfaces := #[9, 10], accessFlags := 1041, mirror := some 4 }

def heap : Heap := #[{ cls := 11, slots := #[.long 0, .int 0, .ref 5, .ref 6], vm := .statics 11 },
  { cls := 13, slots := #[.long 0, .int 0, .null, .ref 8, .ref 7, .null, .null, .null, .int 0, .int 1], vm := .statics 13 },
  { cls := 22, slots := #[.long 0, .int 1, .null, .int 0, .null, .int 0, .int 0], vm := .statics 22 },
  { cls := 28, slots := #[.null, .null, .null], vm := .statics 28 },
  { cls := 30, slots := #[], vm := .mirror 35 },
  { cls := 35, slots := #[], vm := .none },
  { cls := 35, slots := #[], vm := .none },
  { cls := 17, slots := #[.ref 6, .int 0], vm := .none },
  { cls := 0, slots := #[], vm := .none }]
def classes : Array Class := #[k0, k1, k2, k3, k4, k5, k6, k7, k8, k9, k10, k11, k12, k13, k14, k15, k16, k17, k18, k19, k20, k21, k22, k23, k24, k25, k26, k27, k28, k29, k30, k31, k32, k33, k34, k35]
def interned : List (Array UInt16 × Addr) := []
def slotsUsed : Nat := 26
def theMethod : MethodId := ⟨1, 1⟩
def args0 : Array Value := #[.int 5, .int 7, .int 9]
def aboutOver (below : List Frame) : State where
  vm := { classes := classes, interned := interned.toArray }
  heap := heap
  slotsUsed := slotsUsed
  threads := #[{ frames := .invoking theMethod args0 :: below }]
def below0 : List Frame := [.native { method := ⟨0, 0⟩, args := #[] }]
def about1 : State := aboutOver below0
def p0 : Program := .bare "" "" ""
def e0 : Env := launch0.env 0 0 0
theorem w_frames : about1.frames = Frame.invoking theMethod args0 :: below0 := rfl
set_option maxRecDepth 65536 in
theorem w_args : argsFit about1.vm theMethod args0 = true := by decide +kernel
set_option maxRecDepth 65536 in
theorem w_heap : heapFits about1 = true := by decide +kernel
set_option maxRecDepth 65536 in
theorem w_runnable : about1.curStatus? = some .runnable := by decide +kernel
set_option maxRecDepth 65536 in
theorem w_alone : about1.alone = true := by decide +kernel
set_option maxRecDepth 65536 in
theorem w_named : about1.methodNamed? x = some theMethod := by decide +kernel
set_option maxRecDepth 65536 in
theorem w_hears : about1.hears theMethod below0 = true := by decide +kernel
set_option maxRecDepth 65536 in
theorem w_ripe : about1.ripe theMethod args0 below0 = true := by decide +kernel
theorem w_running : about1.status = .running := rfl
set_option maxRecDepth 65536 in
theorem w_room : about1.hasRoom e0.platform room_1 = true :=
  launch0.hasRoom_least _ room_1 (by decide +kernel) (by decide +kernel) (by decide +kernel) (by decide +kernel) (by decide +kernel) (by decide +kernel)
theorem allAtoms_all (ts : List Jvm.Cond) (a : Array Jvm.Value) (st : Jvm.State) : (allAtoms ts).before a st = ts.all (fun c => c.before a st) := by
  induction ts with
  | nil => rfl
  | cons c t ih =>
    show (Jvm.Cond.and c (allAtoms t)).before a st = _
    rw [Jvm.Cond.before_and, ih, List.all_cons]
def words1 : List Jvm.Cond := Jvm.Cond.code x code maxLocals ret :: tables_1
/-- a 'code' word, met by the world's own term for the bytes: nothing is compared byte by byte -/
theorem code_word {y : MethodName} {bytes : ByteArray} {mx : Nat} {rt : Option FieldType} {a : Array Value} {s : State} {m : MethodId} {meth : Method} {c : Code} (h1 : s.methodNamed? y = some m) (h2 : s.vm.method? m = some meth) (h3 : meth.code = some c) (h4 : c.code = bytes)
    (h5 : (c.maxLocals == mx && c.exceptionTable.isEmpty && decide (c.maxStack ≤ mostOperands) && decide (meth.sig.returnType = rt) && !meth.locks && decide (parseMethodDescriptor y.desc = some meth.sig)) = true) : (Jvm.Cond.code y bytes mx rt).before a s = true := by
  simp only [Bool.and_eq_true, beq_iff_eq, Bool.not_eq_true', decide_eq_true_eq] at h5
  obtain ⟨⟨⟨⟨⟨g1, g2⟩, g3⟩, g4⟩, g5⟩, g6⟩ := h5
  simp [Cond.before, Cond.holds, Cond.value, h1, h2, h3, h4, g1, g2, g3, g4, g5, g6]
def isCode : Jvm.Cond → Bool
  | .code _ _ _ _ => true
  | _ => false
theorem all_split {L : List Jvm.Cond} {P : Jvm.Cond → Bool} (h1 : L.all (fun c => isCode c || P c) = true) (h2 : ∀ c ∈ L.filter isCode, P c = true) : L.all P = true := by
  refine List.all_eq_true.mpr fun c hc => ?_
  have h := List.all_eq_true.mp h1 c hc
  rcases Bool.eq_false_or_eq_true (isCode c) with hi | hi
  · exact h2 c (List.mem_filter.mpr ⟨hc, hi⟩)
  · simpa [hi] using h
set_option maxRecDepth 65536 in
theorem w_c0 : (Jvm.Cond.code x code maxLocals ret).before args0 about1 = true := code_word (m := ⟨1, 1⟩) (meth := k1m1) (c := k1c1) (by decide +kernel) rfl rfl rfl (by decide +kernel)
set_option maxRecDepth 65536 in
theorem w_c1 : (Jvm.Cond.code ({ cls := "java/util/ArrayList", name := "<init>", desc := "()V" } : Jvm.MethodName) jdk_38_method_2_code (1 : Nat) (Option.none : Option Jvm.ClassFile.FieldType)).before args0 about1 = true := code_word (m := ⟨11, 0⟩) (meth := k11m0) (c := k11c0) (by decide +kernel) rfl rfl rfl (by decide +kernel)
set_option maxRecDepth 65536 in
theorem w_c2 : (Jvm.Cond.code ({ cls := "java/util/AbstractList", name := "<init>", desc := "()V" } : Jvm.MethodName) jdk_39_method_1_code (1 : Nat) (Option.none : Option Jvm.ClassFile.FieldType)).before args0 about1 = true := code_word (m := ⟨7, 0⟩) (meth := k7m0) (c := k7c0) (by decide +kernel) rfl rfl rfl (by decide +kernel)
set_option maxRecDepth 65536 in
theorem w_c3 : (Jvm.Cond.code ({ cls := "java/util/AbstractCollection", name := "<init>", desc := "()V" } : Jvm.MethodName) jdk_22_method_1_code (1 : Nat) (Option.none : Option Jvm.ClassFile.FieldType)).before args0 about1 = true := code_word (m := ⟨4, 0⟩) (meth := k4m0) (c := k4c0) (by decide +kernel) rfl rfl rfl (by decide +kernel)
set_option maxRecDepth 65536 in
theorem w_c4 : (Jvm.Cond.code ({ cls := "java/lang/Object", name := "<init>", desc := "()V" } : Jvm.MethodName) object_method_1_code (1 : Nat) (Option.none : Option Jvm.ClassFile.FieldType)).before args0 about1 = true := code_word (m := ⟨0, 0⟩) (meth := k0m0) (c := k0c0) (by decide +kernel) rfl rfl rfl (by decide +kernel)
set_option maxRecDepth 65536 in
theorem w_c5 : (Jvm.Cond.code ({ cls := "com/example/tinlet/tinlet/deploy/descriptor/FragmentNames", name := "<init>", desc := "(Ljava/util/List;I)V" } : Jvm.MethodName) prog_7_method_1_code (3 : Nat) (Option.none : Option Jvm.ClassFile.FieldType)).before args0 about1 = true := code_word (m := ⟨12, 0⟩) (meth := k12m0) (c := k12c0) (by decide +kernel) rfl rfl rfl (by decide +kernel)
set_option maxRecDepth 65536 in
theorem w_c6 : (Jvm.Cond.code ({ cls := "java/util/List", name := "copyOf", desc := "(Ljava/util/Collection;)Ljava/util/List;" } : Jvm.MethodName) jdk_40_method_48_code (1 : Nat) (Option.some (Jvm.ClassFile.FieldType.object "java/util/List"))).before args0 about1 = true := code_word (m := ⟨6, 3⟩) (meth := k6m3) (c := k6c3) (by decide +kernel) rfl rfl rfl (by decide +kernel)
set_option maxRecDepth 65536 in
theorem w_c7 : (Jvm.Cond.code ({ cls := "java/util/ImmutableCollections", name := "listCopy", desc := "(Ljava/util/Collection;)Ljava/util/List;" } : Jvm.MethodName) jdk_56_method_3_code (2 : Nat) (Option.some (Jvm.ClassFile.FieldType.object "java/util/List"))).before args0 about1 = true := code_word (m := ⟨13, 1⟩) (meth := k13m1) (c := k13c1) (by decide +kernel) rfl rfl rfl (by decide +kernel)
set_option maxRecDepth 65536 in
theorem w_c8 : (Jvm.Cond.code ({ cls := "java/util/ArrayList", name := "isEmpty", desc := "()Z" } : Jvm.MethodName) jdk_38_method_9_code (1 : Nat) (Option.some Jvm.ClassFile.FieldType.boolean)).before args0 about1 = true := code_word (m := ⟨11, 3⟩) (meth := k11m3) (c := k11c3) (by decide +kernel) rfl rfl rfl (by decide +kernel)
set_option maxRecDepth 65536 in
theorem w_c9 : (Jvm.Cond.code ({ cls := "java/util/List", name := "of", desc := "()Ljava/util/List;" } : Jvm.MethodName) jdk_40_method_36_code (0 : Nat) (Option.some (Jvm.ClassFile.FieldType.object "java/util/List"))).before args0 about1 = true := code_word (m := ⟨6, 1⟩) (meth := k6m1) (c := k6c1) (by decide +kernel) rfl rfl rfl (by decide +kernel)
set_option maxRecDepth 65536 in
theorem w_c10 : (Jvm.Cond.code ({ cls := "com/example/tinlet/tinlet/deploy/descriptor/FragmentNames", name := "hasOthers", desc := "()Z" } : Jvm.MethodName) prog_7_method_3_code (1 : Nat) (Option.some Jvm.ClassFile.FieldType.boolean)).before args0 about1 = true := code_word (m := ⟨12, 1⟩) (meth := k12m1) (c := k12c1) (by decide +kernel) rfl rfl rfl (by decide +kernel)
set_option maxRecDepth 65536 in
theorem w_c11 : (Jvm.Cond.code ({ cls := "com/example/tinlet/tinlet/deploy/descriptor/FragmentNames", name := "isEmpty", desc := "()Z" } : Jvm.MethodName) prog_7_method_5_code (1 : Nat) (Option.some Jvm.ClassFile.FieldType.boolean)).before args0 about1 = true := code_word (m := ⟨12, 2⟩) (meth := k12m2) (c := k12c2) (by decide +kernel) rfl rfl rfl (by decide +kernel)
set_option maxRecDepth 65536 in
theorem w_c12 : (Jvm.Cond.code ({ cls := "java/util/ImmutableCollections$ListN", name := "isEmpty", desc := "()Z" } : Jvm.MethodName) jdk_45_method_2_code (1 : Nat) (Option.some Jvm.ClassFile.FieldType.boolean)).before args0 about1 = true := code_word (m := ⟨17, 1⟩) (meth := k17m1) (c := k17c1) (by decide +kernel) rfl rfl rfl (by decide +kernel)
set_option maxRecDepth 65536 in
theorem w_c13 : (Jvm.Cond.code ({ cls := "java/lang/String", name := "valueOf", desc := "(C)Ljava/lang/String;" } : Jvm.MethodName) jdk_42_method_139_code (1 : Nat) (Option.some (Jvm.ClassFile.FieldType.object "java/lang/String"))).before args0 about1 = true := code_word (m := ⟨22, 1⟩) (meth := k22m1) (c := k22c1) (by decide +kernel) rfl rfl rfl (by decide +kernel)
set_option maxRecDepth 65536 in
theorem w_c14 : (Jvm.Cond.code ({ cls := "java/lang/StringLatin1", name := "canEncode", desc := "(C)Z" } : Jvm.MethodName) jdk_43_method_3_code (1 : Nat) (Option.some Jvm.ClassFile.FieldType.boolean)).before args0 about1 = true := code_word (m := ⟨23, 1⟩) (meth := k23m1) (c := k23c1) (by decide +kernel) rfl rfl rfl (by decide +kernel)
set_option maxRecDepth 65536 in
theorem w_c15 : (Jvm.Cond.code ({ cls := "java/lang/StringLatin1", name := "toBytes", desc := "(C)[B" } : Jvm.MethodName) jdk_43_method_46_code (1 : Nat) (Option.some (Jvm.ClassFile.FieldType.array Jvm.ClassFile.FieldType.byte))).before args0 about1 = true := code_word (m := ⟨23, 2⟩) (meth := k23m2) (c := k23c2) (by decide +kernel) rfl rfl rfl (by decide +kernel)
set_option maxRecDepth 65536 in
theorem w_c16 : (Jvm.Cond.code ({ cls := "java/lang/String", name := "<init>", desc := "([BB)V" } : Jvm.MethodName) jdk_42_method_151_code (3 : Nat) (Option.none : Option Jvm.ClassFile.FieldType)).before args0 about1 = true := code_word (m := ⟨22, 2⟩) (meth := k22m2) (c := k22c2) (by decide +kernel) rfl rfl rfl (by decide +kernel)
set_option maxRecDepth 65536 in
theorem w_c17 : (Jvm.Cond.code ({ cls := "java/util/ArrayList", name := "add", desc := "(Ljava/lang/Object;)Z" } : Jvm.MethodName) jdk_38_method_25_code (2 : Nat) (Option.some Jvm.ClassFile.FieldType.boolean)).before args0 about1 = true := code_word (m := ⟨11, 6⟩) (meth := k11m6) (c := k11c6) (by decide +kernel) rfl rfl rfl (by decide +kernel)
set_option maxRecDepth 65536 in
theorem w_c18 : (Jvm.Cond.code ({ cls := "java/util/ArrayList", name := "add", desc := "(Ljava/lang/Object;[Ljava/lang/Object;I)V" } : Jvm.MethodName) jdk_38_method_24_code (4 : Nat) (Option.none : Option Jvm.ClassFile.FieldType)).before args0 about1 = true := code_word (m := ⟨11, 5⟩) (meth := k11m5) (c := k11c5) (by decide +kernel) rfl rfl rfl (by decide +kernel)
set_option maxRecDepth 65536 in
theorem w_c19 : (Jvm.Cond.code ({ cls := "java/util/ArrayList", name := "grow", desc := "()[Ljava/lang/Object;" } : Jvm.MethodName) jdk_38_method_7_code (1 : Nat) (Option.some (Jvm.ClassFile.FieldType.array (Jvm.ClassFile.FieldType.object "java/lang/Object")))).before args0 about1 = true := code_word (m := ⟨11, 2⟩) (meth := k11m2) (c := k11c2) (by decide +kernel) rfl rfl rfl (by decide +kernel)
set_option maxRecDepth 65536 in
theorem w_c20 : (Jvm.Cond.code ({ cls := "java/util/ArrayList", name := "grow", desc := "(I)[Ljava/lang/Object;" } : Jvm.MethodName) jdk_38_method_6_code (4 : Nat) (Option.some (Jvm.ClassFile.FieldType.array (Jvm.ClassFile.FieldType.object "java/lang/Object")))).before args0 about1 = true := code_word (m := ⟨11, 1⟩) (meth := k11m1) (c := k11c1) (by decide +kernel) rfl rfl rfl (by decide +kernel)
set_option maxRecDepth 65536 in
theorem w_c21 : (Jvm.Cond.code ({ cls := "java/lang/Math", name := "max", desc := "(II)I" } : Jvm.MethodName) jdk_29_method_65_code (2 : Nat) (Option.some Jvm.ClassFile.FieldType.int)).before args0 about1 = true := code_word (m := ⟨24, 1⟩) (meth := k24m1) (c := k24c1) (by decide +kernel) rfl rfl rfl (by decide +kernel)
set_option maxRecDepth 65536 in
theorem w_c22 : (Jvm.Cond.code ({ cls := "java/util/ArrayList", name := "toArray", desc := "()[Ljava/lang/Object;" } : Jvm.MethodName) jdk_38_method_16_code (1 : Nat) (Option.some (Jvm.ClassFile.FieldType.array (Jvm.ClassFile.FieldType.object "java/lang/Object")))).before args0 about1 = true := code_word (m := ⟨11, 4⟩) (meth := k11m4) (c := k11c4) (by decide +kernel) rfl rfl rfl (by decide +kernel)
set_option maxRecDepth 65536 in
theorem w_c23 : (Jvm.Cond.code ({ cls := "java/util/Arrays", name := "copyOf", desc := "([Ljava/lang/Object;I)[Ljava/lang/Object;" } : Jvm.MethodName) jdk_65_method_119_code (2 : Nat) (Option.some (Jvm.ClassFile.FieldType.array (Jvm.ClassFile.FieldType.object "java/lang/Object")))).before args0 about1 = true := code_word (m := ⟨25, 1⟩) (meth := k25m1) (c := k25c1) (by decide +kernel) rfl rfl rfl (by decide +kernel)
set_option maxRecDepth 65536 in
theorem w_c24 : (Jvm.Cond.code ({ cls := "java/util/Arrays", name := "copyOf", desc := "([Ljava/lang/Object;ILjava/lang/Class;)[Ljava/lang/Object;" } : Jvm.MethodName) jdk_65_method_120_code (4 : Nat) (Option.some (Jvm.ClassFile.FieldType.array (Jvm.ClassFile.FieldType.object "java/lang/Object")))).before args0 about1 = true := code_word (m := ⟨25, 2⟩) (meth := k25m2) (c := k25c2) (by decide +kernel) rfl rfl rfl (by decide +kernel)
set_option maxRecDepth 65536 in
theorem w_c25 : (Jvm.Cond.code ({ cls := "java/lang/Math", name := "min", desc := "(II)I" } : Jvm.MethodName) jdk_29_method_69_code (2 : Nat) (Option.some Jvm.ClassFile.FieldType.int)).before args0 about1 = true := code_word (m := ⟨24, 2⟩) (meth := k24m2) (c := k24c2) (by decide +kernel) rfl rfl rfl (by decide +kernel)
set_option maxRecDepth 65536 in
theorem w_c26 : (Jvm.Cond.code ({ cls := "java/util/List", name := "of", desc := "([Ljava/lang/Object;)Ljava/util/List;" } : Jvm.MethodName) jdk_40_method_47_code (2 : Nat) (Option.some (Jvm.ClassFile.FieldType.object "java/util/List"))).before args0 about1 = true := code_word (m := ⟨6, 2⟩) (meth := k6m2) (c := k6c2) (by decide +kernel) rfl rfl rfl (by decide +kernel)
set_option maxRecDepth 65536 in
theorem w_c27 : (Jvm.Cond.code ({ cls := "java/util/ImmutableCollections$List12", name := "<init>", desc := "(Ljava/lang/Object;)V" } : Jvm.MethodName) jdk_44_method_1_code (2 : Nat) (Option.none : Option Jvm.ClassFile.FieldType)).before args0 about1 = true := code_word (m := ⟨16, 0⟩) (meth := k16m0) (c := k16c0) (by decide +kernel) rfl rfl rfl (by decide +kernel)
set_option maxRecDepth 65536 in
theorem w_c28 : (Jvm.Cond.code ({ cls := "java/util/ImmutableCollections$AbstractImmutableList", name := "<init>", desc := "()V" } : Jvm.MethodName) jdk_46_method_1_code (1 : Nat) (Option.none : Option Jvm.ClassFile.FieldType)).before args0 about1 = true := code_word (m := ⟨15, 0⟩) (meth := k15m0) (c := k15c0) (by decide +kernel) rfl rfl rfl (by decide +kernel)
set_option maxRecDepth 65536 in
theorem w_c29 : (Jvm.Cond.code ({ cls := "java/util/ImmutableCollections$AbstractImmutableCollection", name := "<init>", desc := "()V" } : Jvm.MethodName) jdk_47_method_1_code (1 : Nat) (Option.none : Option Jvm.ClassFile.FieldType)).before args0 about1 = true := code_word (m := ⟨14, 0⟩) (meth := k14m0) (c := k14c0) (by decide +kernel) rfl rfl rfl (by decide +kernel)
set_option maxRecDepth 65536 in
theorem w_c30 : (Jvm.Cond.code ({ cls := "java/util/Objects", name := "requireNonNull", desc := "(Ljava/lang/Object;)Ljava/lang/Object;" } : Jvm.MethodName) jdk_31_method_10_code (1 : Nat) (Option.some (Jvm.ClassFile.FieldType.object "java/lang/Object"))).before args0 about1 = true := code_word (m := ⟨27, 1⟩) (meth := k27m1) (c := k27c1) (by decide +kernel) rfl rfl rfl (by decide +kernel)
set_option maxRecDepth 65536 in
theorem w_c31 : (Jvm.Cond.code ({ cls := "java/util/ImmutableCollections", name := "listFromArray", desc := "([Ljava/lang/Object;)Ljava/util/List;" } : Jvm.MethodName) jdk_56_method_4_code (3 : Nat) (Option.some (Jvm.ClassFile.FieldType.object "java/util/List"))).before args0 about1 = true := code_word (m := ⟨13, 2⟩) (meth := k13m2) (c := k13c2) (by decide +kernel) rfl rfl rfl (by decide +kernel)
set_option maxRecDepth 65536 in
theorem w_c32 : (Jvm.Cond.code ({ cls := "java/util/ImmutableCollections$ListN", name := "<init>", desc := "([Ljava/lang/Object;Z)V" } : Jvm.MethodName) jdk_45_method_1_code (3 : Nat) (Option.none : Option Jvm.ClassFile.FieldType)).before args0 about1 = true := code_word (m := ⟨17, 0⟩) (meth := k17m0) (c := k17c0) (by decide +kernel) rfl rfl rfl (by decide +kernel)
set_option maxRecDepth 65536 in
theorem w_c33 : (Jvm.Cond.code ({ cls := "java/util/ImmutableCollections$List12", name := "<init>", desc := "(Ljava/lang/Object;Ljava/lang/Object;)V" } : Jvm.MethodName) jdk_44_method_2_code (3 : Nat) (Option.none : Option Jvm.ClassFile.FieldType)).before args0 about1 = true := code_word (m := ⟨16, 1⟩) (meth := k16m1) (c := k16c1) (by decide +kernel) rfl rfl rfl (by decide +kernel)
def codes1 : List Jvm.Cond := [Jvm.Cond.code x code maxLocals ret, Jvm.Cond.code ({ cls := "java/util/ArrayList", name := "<init>", desc := "()V" } : Jvm.MethodName) jdk_38_method_2_code (1 : Nat) (Option.none : Option Jvm.ClassFile.FieldType), Jvm.Cond.code ({ cls := "java/util/AbstractList", name := "<init>", desc := "()V" } : Jvm.MethodName) jdk_39_method_1_code (1 : Nat) (Option.none : Option Jvm.ClassFile.FieldType), Jvm.Cond.code ({ cls := "java/util/AbstractCollection", name := "<init>", desc := "()V" } : Jvm.MethodName) jdk_22_method_1_code (1 : Nat) (Option.none : Option Jvm.ClassFile.FieldType), Jvm.Cond.code ({ cls := "java/lang/Object", name := "<init>", desc := "()V" } : Jvm.MethodName) object_method_1_code (1 : Nat) (Option.none : Option Jvm.ClassFile.FieldType), Jvm.Cond.code ({ cls := "com/example/tinlet/tinlet/deploy/descriptor/FragmentNames", name := "<init>", desc := "(Ljava/util/List;I)V" } : Jvm.MethodName) prog_7_method_1_code (3 : Nat) (Option.none : Option Jvm.ClassFile.FieldType), Jvm.Cond.code ({ cls := "java/util/List", name := "copyOf", desc := "(Ljava/util/Collection;)Ljava/util/List;" } : Jvm.MethodName) jdk_40_method_48_code (1 : Nat) (Option.some (Jvm.ClassFile.FieldType.object "java/util/List")), Jvm.Cond.code ({ cls := "java/util/ImmutableCollections", name := "listCopy", desc := "(Ljava/util/Collection;)Ljava/util/List;" } : Jvm.MethodName) jdk_56_method_3_code (2 : Nat) (Option.some (Jvm.ClassFile.FieldType.object "java/util/List")), Jvm.Cond.code ({ cls := "java/util/ArrayList", name := "isEmpty", desc := "()Z" } : Jvm.MethodName) jdk_38_method_9_code (1 : Nat) (Option.some Jvm.ClassFile.FieldType.boolean), Jvm.Cond.code ({ cls := "java/util/List", name := "of", desc := "()Ljava/util/List;" } : Jvm.MethodName) jdk_40_method_36_code (0 : Nat) (Option.some (Jvm.ClassFile.FieldType.object "java/util/List")), Jvm.Cond.code ({ cls := "com/example/tinlet/tinlet/deploy/descriptor/FragmentNames", name := "hasOthers", desc := "()Z" } : Jvm.MethodName) prog_7_method_3_code (1 : Nat) (Option.some Jvm.ClassFile.FieldType.boolean), Jvm.Cond.code ({ cls := "com/example/tinlet/tinlet/deploy/descriptor/FragmentNames", name := "isEmpty", desc := "()Z" } : Jvm.MethodName) prog_7_method_5_code (1 : Nat) (Option.some Jvm.ClassFile.FieldType.boolean), Jvm.Cond.code ({ cls := "java/util/ImmutableCollections$ListN", name := "isEmpty", desc := "()Z" } : Jvm.MethodName) jdk_45_method_2_code (1 : Nat) (Option.some Jvm.ClassFile.FieldType.boolean), Jvm.Cond.code ({ cls := "java/lang/String", name := "valueOf", desc := "(C)Ljava/lang/String;" } : Jvm.MethodName) jdk_42_method_139_code (1 : Nat) (Option.some (Jvm.ClassFile.FieldType.object "java/lang/String")), Jvm.Cond.code ({ cls := "java/lang/StringLatin1", name := "canEncode", desc := "(C)Z" } : Jvm.MethodName) jdk_43_method_3_code (1 : Nat) (Option.some Jvm.ClassFile.FieldType.boolean), Jvm.Cond.code ({ cls := "java/lang/StringLatin1", name := "toBytes", desc := "(C)[B" } : Jvm.MethodName) jdk_43_method_46_code (1 : Nat) (Option.some (Jvm.ClassFile.FieldType.array Jvm.ClassFile.FieldType.byte)), Jvm.Cond.code ({ cls := "java/lang/String", name := "<init>", desc := "([BB)V" } : Jvm.MethodName) jdk_42_method_151_code (3 : Nat) (Option.none : Option Jvm.ClassFile.FieldType), Jvm.Cond.code ({ cls := "java/util/ArrayList", name := "add", desc := "(Ljava/lang/Object;)Z" } : Jvm.MethodName) jdk_38_method_25_code (2 : Nat) (Option.some Jvm.ClassFile.FieldType.boolean), Jvm.Cond.code ({ cls := "java/util/ArrayList", name := "add", desc := "(Ljava/lang/Object;[Ljava/lang/Object;I)V" } : Jvm.MethodName) jdk_38_method_24_code (4 : Nat) (Option.none : Option Jvm.ClassFile.FieldType), Jvm.Cond.code ({ cls := "java/util/ArrayList", name := "grow", desc := "()[Ljava/lang/Object;" } : Jvm.MethodName) jdk_38_method_7_code (1 : Nat) (Option.some (Jvm.ClassFile.FieldType.array (Jvm.ClassFile.FieldType.object "java/lang/Object"))), Jvm.Cond.code ({ cls := "java/util/ArrayList", name := "grow", desc := "(I)[Ljava/lang/Object;" } : Jvm.MethodName) jdk_38_method_6_code (4 : Nat) (Option.some (Jvm.ClassFile.FieldType.array (Jvm.ClassFile.FieldType.object "java/lang/Object"))), Jvm.Cond.code ({ cls := "java/lang/Math", name := "max", desc := "(II)I" } : Jvm.MethodName) jdk_29_method_65_code (2 : Nat) (Option.some Jvm.ClassFile.FieldType.int), Jvm.Cond.code ({ cls := "java/util/ArrayList", name := "toArray", desc := "()[Ljava/lang/Object;" } : Jvm.MethodName) jdk_38_method_16_code (1 : Nat) (Option.some (Jvm.ClassFile.FieldType.array (Jvm.ClassFile.FieldType.object "java/lang/Object"))), Jvm.Cond.code ({ cls := "java/util/Arrays", name := "copyOf", desc := "([Ljava/lang/Object;I)[Ljava/lang/Object;" } : Jvm.MethodName) jdk_65_method_119_code (2 : Nat) (Option.some (Jvm.ClassFile.FieldType.array (Jvm.ClassFile.FieldType.object "java/lang/Object"))), Jvm.Cond.code ({ cls := "java/util/Arrays", name := "copyOf", desc := "([Ljava/lang/Object;ILjava/lang/Class;)[Ljava/lang/Object;" } : Jvm.MethodName) jdk_65_method_120_code (4 : Nat) (Option.some (Jvm.ClassFile.FieldType.array (Jvm.ClassFile.FieldType.object "java/lang/Object"))), Jvm.Cond.code ({ cls := "java/lang/Math", name := "min", desc := "(II)I" } : Jvm.MethodName) jdk_29_method_69_code (2 : Nat) (Option.some Jvm.ClassFile.FieldType.int), Jvm.Cond.code ({ cls := "java/util/List", name := "of", desc := "([Ljava/lang/Object;)Ljava/util/List;" } : Jvm.MethodName) jdk_40_method_47_code (2 : Nat) (Option.some (Jvm.ClassFile.FieldType.object "java/util/List")), Jvm.Cond.code ({ cls := "java/util/ImmutableCollections$List12", name := "<init>", desc := "(Ljava/lang/Object;)V" } : Jvm.MethodName) jdk_44_method_1_code (2 : Nat) (Option.none : Option Jvm.ClassFile.FieldType), Jvm.Cond.code ({ cls := "java/util/ImmutableCollections$AbstractImmutableList", name := "<init>", desc := "()V" } : Jvm.MethodName) jdk_46_method_1_code (1 : Nat) (Option.none : Option Jvm.ClassFile.FieldType), Jvm.Cond.code ({ cls := "java/util/ImmutableCollections$AbstractImmutableCollection", name := "<init>", desc := "()V" } : Jvm.MethodName) jdk_47_method_1_code (1 : Nat) (Option.none : Option Jvm.ClassFile.FieldType), Jvm.Cond.code ({ cls := "java/util/Objects", name := "requireNonNull", desc := "(Ljava/lang/Object;)Ljava/lang/Object;" } : Jvm.MethodName) jdk_31_method_10_code (1 : Nat) (Option.some (Jvm.ClassFile.FieldType.object "java/lang/Object")), Jvm.Cond.code ({ cls := "java/util/ImmutableCollections", name := "listFromArray", desc := "([Ljava/lang/Object;)Ljava/util/List;" } : Jvm.MethodName) jdk_56_method_4_code (3 : Nat) (Option.some (Jvm.ClassFile.FieldType.object "java/util/List")), Jvm.Cond.code ({ cls := "java/util/ImmutableCollections$ListN", name := "<init>", desc := "([Ljava/lang/Object;Z)V" } : Jvm.MethodName) jdk_45_method_1_code (3 : Nat) (Option.none : Option Jvm.ClassFile.FieldType), Jvm.Cond.code ({ cls := "java/util/ImmutableCollections$List12", name := "<init>", desc := "(Ljava/lang/Object;Ljava/lang/Object;)V" } : Jvm.MethodName) jdk_44_method_2_code (3 : Nat) (Option.none : Option Jvm.ClassFile.FieldType)]
set_option maxRecDepth 65536 in
theorem codes_eq : words1.filter isCode = codes1 := rfl
theorem w_codes : ∀ c ∈ words1.filter isCode, c.before args0 about1 = true := by
  rw [codes_eq]
  intro c hc
  simp only [codes1, List.mem_cons, List.not_mem_nil, or_false] at hc
  rcases hc with rfl | rfl | rfl | rfl | rfl | rfl | rfl | rfl | rfl | rfl | rfl | rfl | rfl | rfl | rfl | rfl | rfl | rfl | rfl | rfl | rfl | rfl | rfl | rfl | rfl | rfl | rfl | rfl | rfl | rfl | rfl | rfl | rfl | rfl
  · exact w_c0
  · exact w_c1
  · exact w_c2
  · exact w_c3
  · exact w_c4
  · exact w_c5
  · exact w_c6
  · exact w_c7
  · exact w_c8
  · exact w_c9
  · exact w_c10
  · exact w_c11
  · exact w_c12
  · exact w_c13
  · exact w_c14
  · exact w_c15
  · exact w_c16
  · exact w_c17
  · exact w_c18
  · exact w_c19
  · exact w_c20
  · exact w_c21
  · exact w_c22
  · exact w_c23
  · exact w_c24
  · exact w_c25
  · exact w_c26
  · exact w_c27
  · exact w_c28
  · exact w_c29
  · exact w_c30
  · exact w_c31
  · exact w_c32
  · exact w_c33
set_option maxRecDepth 65536 in
theorem w_t1 : (words1.take 24).all (fun c => isCode c || c.before args0 about1) = true := by decide +kernel
set_option maxRecDepth 65536 in
theorem w_t2 : ((words1.drop 24).take 24).all (fun c => isCode c || c.before args0 about1) = true := by decide +kernel
set_option maxRecDepth 65536 in
theorem w_t3 : (((words1.drop 24).drop 24).take 24).all (fun c => isCode c || c.before args0 about1) = true := by decide +kernel
set_option maxRecDepth 65536 in
theorem w_t4 : ((((words1.drop 24).drop 24).drop 24).take 24).all (fun c => isCode c || c.before args0 about1) = true := by decide +kernel
set_option maxRecDepth 65536 in
theorem w_t5 : (((((words1.drop 24).drop 24).drop 24).drop 24).take 24).all (fun c => isCode c || c.before args0 about1) = true := by decide +kernel
set_option maxRecDepth 65536 in
theorem w_t6 : ((((((words1.drop 24).drop 24).drop 24).drop 24).drop 24).take 24).all (fun c => isCode c || c.before args0 about1) = true := by decide +kernel
set_option maxRecDepth 65536 in
theorem w_t7 : (((((((words1.drop 24).drop 24).drop 24).drop 24).drop 24).drop 24).take 24).all (fun c => isCode c || c.before args0 about1) = true := by decide +kernel
set_option maxRecDepth 65536 in
theorem w_t8 : ((((((((words1.drop 24).drop 24).drop 24).drop 24).drop 24).drop 24).drop 24).take 24).all (fun c => isCode c || c.before args0 about1) = true := by decide +kernel
set_option maxRecDepth 65536 in
theorem w_t9 : (((((((((words1.drop 24).drop 24).drop 24).drop 24).drop 24).drop 24).drop 24).drop 24).take 24).all (fun c => isCode c || c.before args0 about1) = true := by decide +kernel
set_option maxRecDepth 65536 in
theorem w_t10 : (((((((((words1.drop 24).drop 24).drop 24).drop 24).drop 24).drop 24).drop 24).drop 24).drop 24).all (fun c => isCode c || c.before args0 about1) = true := by decide +kernel
theorem w_tables : (allAtoms (Jvm.Cond.code x code maxLocals ret :: tables_1)).before args0 about1 = true := by
  rw [allAtoms_all]
  show words1.all (fun c => c.before args0 about1) = true
  refine all_split ?_ w_codes
  rw [← List.take_append_drop 24 words1, List.all_append, w_t1, ← List.take_append_drop 24 (words1.drop 24), List.all_append, w_t2, ← List.take_append_drop 24 ((words1.drop 24).drop 24), List.all_append, w_t3, ← List.take_append_drop 24 (((words1.drop 24).drop 24).drop 24), List.all_append, w_t4, ← List.take_append_drop 24 ((((words1.drop 24).drop 24).drop 24).drop 24), List.all_append, w_t5, ← List.take_append_drop 24 (((((words1.drop 24).drop 24).drop 24).drop 24).drop 24), List.all_append, w_t6, ← List.take_append_drop 24 ((((((words1.drop 24).drop 24).drop 24).drop 24).drop 24).drop 24), List.all_append, w_t7, ← List.take_append_drop 24 (((((((words1.drop 24).drop 24).drop 24).drop 24).drop 24).drop 24).drop 24), List.all_append, w_t8, ← List.take_append_drop 24 ((((((((words1.drop 24).drop 24).drop 24).drop 24).drop 24).drop 24).drop 24).drop 24), List.all_append, w_t9, w_t10]
  rfl
set_option maxRecDepth 65536 in
theorem w_rest : rest_1_c.before args0 about1 = true := by decide +kernel
set_option maxRecDepth 65536 in
theorem w_case : (Jvm.Cond.and given_1 narrow_1).before args0 about1 = true := by decide +kernel
theorem w_applies : (headSpec (Jvm.Cond.code x code maxLocals ret :: tables_1) room_1).applies x e0.platform about1 = true :=
  (Spec.applies_iff w_frames).mpr ⟨w_running, w_runnable, w_alone, w_named, w_hears, w_ripe, w_room, w_tables⟩
theorem atStart : AtStart classFile x code maxLocals ret World_1 tables_1 room_1 Calls_1 rest_1 Pre_1 launch0 p0 e0 about1 theMethod args0 below0 :=
  ⟨lists_1, trivial, launch0.admits_env _ _ _, launch0.least_env, fairChoices_fair.cas, fairChoices_fair.clock, w_frames, w_args, w_heap, w_applies, ⟨⟨35, k35, 4, by decide +kernel, rfl, rfl, _, rfl, rfl⟩, trivial⟩, w_rest, w_case⟩
end start1
theorem witness_1 : WitnessClaimed_1 := ⟨start1.p0, start1.e0, start1.about1, start1.theMethod, start1.args0, start1.below0, start1.atStart⟩
end Jvm.Pilot.@@N@@
