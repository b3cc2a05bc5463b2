import JvmDerived
import JvmDerived.Pilot.@@N@@Statement
import JvmDerived.Pilot.@@N@@Code
set_option linter.unusedVariables false
set_option linter.unusedSimpArgs false
namespace Jvm.RoadKit
open Sem ClassFile Op Lib Jvm.Stand Jvm.Free Jvm.LawKit
section New
variable {p : Program} {l : Launch} {e : Env} {R : Room} {s : State} {m : MethodId} {args : Array Value} {below : List Frame} {meth : Method} {c : Code} {T : State} {locs : List Loc} {cells slots : Nat}
theorem retI (X : Stand p l e R s m args below meth c T locs cells slots) (hx : p.tables.exec = Jvm.exec) {pc : Nat} {Ls : Array Slot} {z : Int32} {rest : List Value} (hret : meth.sig.returnType = some .int) (hd : decode c.code pc = .ok (.ireturn, 1)) {fs : List Frame}
    (hl : ∀ (f : JFrame) (acts : List Action), f.method = m → f.locked = none → f.entered = [] → (doReturn e (T.setTop f) acts (some (.int z))).1 = T.setFrames fs) : Steps p.tables e below (T.setTop (mkF m pc Ls (.int z :: rest))) (T.setFrames fs) := by
  have hm' : T.vm.method? m = some meth := X.method'
  have hn : narrow .int (.int z) = .int z := rfl
  show Steps p.tables e below (T.setTop { method := m, pc := pc, locals := Ls, stack := _ :: rest, locked := none }) _
  jvm_step X.here [X.here.top, hx, hd, hm', hret, hn]
  first | (intro acts; rw [hl _ acts rfl rfl rfl]) | rw [hl _ _ rfl rfl rfl]
  exact Steps.refl _
end New
end Jvm.RoadKit
namespace Jvm.Pilot.@@N@@
open Jvm Jvm.ClassFile Sem Op Lib Jvm.Free Jvm.Stand Jvm.LawKit Jvm.RoadKit Bundle Jvm.Pilot.@@N@@.Jvm.D
theorem d1_0 : decode prog_35_method_1_code 0 = .ok (.aload_n 0, 1) := by decide +kernel
theorem d1_1 : decode prog_35_method_1_code 1 = .ok (.invokespecial 1, 3) := by decide +kernel
theorem d1_4 : decode prog_35_method_1_code 4 = .ok (.aload_n 0, 1) := by decide +kernel
theorem d1_5 : decode prog_35_method_1_code 5 = .ok (.lload_n 1, 1) := by decide +kernel
theorem d1_6 : decode prog_35_method_1_code 6 = .ok (.putfield 7, 3) := by decide +kernel
theorem d1_9 : decode prog_35_method_1_code 9 = .ok (.return_, 1) := by decide +kernel
theorem pn_1 : plainName "com/example/tinlet/tinlet/http/LogThrottle" = true := by first | (simp [plainName, overriddenIn]; done) | decide +kernel
theorem ef_1 (m : MethodId) (x0 : Addr) (x1 : Int64) : entryFrame m #[(.ref x0), (.long x1)] 3 = mkF m 0 #[.val (.ref x0), .val (.long x1), .second] [] := by first | (simp [entryFrame, mkF, argsToLocals, Value.category]; done) | rfl
def Q1 (Z : State) (a1 : Addr) (q2 : Int64) (u_intervalNanos_a1 : Value) (h0 : Heap) (n0 : Nat) (v : Option Value) (h : Heap) (L : List Loc) : Prop := v = none ∧ Fr n0 L ∧ Keep h0 h [a1] ∧ Exa Z h a1 "com/example/tinlet/tinlet/http/LogThrottle" ∧ Fld Z h a1 "com/example/tinlet/tinlet/http/LogThrottle" "intervalNanos" "J" (.long q2) ∧ Fld Z h a1 "com/example/tinlet/tinlet/http/LogThrottle" "occurrences" "I" (.int (0 : Int32)) ∧ Fld Z h a1 "com/example/tinlet/tinlet/http/LogThrottle" "logged" "Z" (.int (0 : Int32)) ∧ Fld Z h a1 "com/example/tinlet/tinlet/http/LogThrottle" "lastLine" "J" (.long (0 : Int64))
set_option maxRecDepth 65536 in
set_option maxHeartbeats 40000000 in
theorem rm1 (l : Launch) (Z : State) (a0 : Array Value) (hw : ∀ d ∈ tables_1, d.before a0 Z = true) (ws : List Jvm.Cond) (a1 : Addr) (q2 : Int64) (u_intervalNanos_a1 : Value) (h0 : Heap) (n0 : Nat) (Z0 : n0 ≤ h0.size) (E_a1 : Exa Z h0 a1 "com/example/tinlet/tinlet/http/LogThrottle") (F_intervalNanos_a1 : Fld Z h0 a1 "com/example/tinlet/tinlet/http/LogThrottle" "intervalNanos" "J" u_intervalNanos_a1) (g_a1 : n0 ≤ a1) (F_occurrences_a1 : Fld Z h0 a1 "com/example/tinlet/tinlet/http/LogThrottle" "occurrences" "I" (.int (0 : Int32))) (F_logged_a1 : Fld Z h0 a1 "com/example/tinlet/tinlet/http/LogThrottle" "logged" "Z" (.int (0 : Int32))) (F_lastLine_a1 : Fld Z h0 a1 "com/example/tinlet/tinlet/http/LogThrottle" "lastLine" "J" (.long (0 : Int64))) :
    MetFree l (⟨"com/example/tinlet/tinlet/http/LogThrottle", "<init>", "(J)V"⟩ : MethodName) (head1 (Jvm.Cond.code (⟨"com/example/tinlet/tinlet/http/LogThrottle", "<init>", "(J)V"⟩ : MethodName) prog_35_method_1_code 3 none :: ws) ({ frames := 1, cells := 0, slots := 0, locals := 12 } : Room)) (fun a U => a = #[(.ref a1), (.long q2)] ∧ Z.Warmed39 U.vm ∧ U.heap = h0) (fun _ _ _ _ _ => True) (fun _ U o U' => ∃ v L, o = .returned v ∧ Q1 Z a1 q2 u_intervalNanos_a1 h0 n0 v U'.heap L ∧ FrameEnd U o U' L ({ frames := 1, cells := 0, slots := 0, locals := 12 } : Room).cells ({ frames := 1, cells := 0, slots := 0, locals := 12 } : Room).slots) := by
  refine MetFree.of_bodySF (plainFor_of_name pn_1) hisR ?_
  intro p e s m args below meth c s₁ Bd hml0 hP hK
  obtain ⟨rfl, hZ, hh⟩ := hP
  have hx := Bd.exec
  have hby := Bd.bytes
  have hml : c.maxLocals = 3 := hml0
  have hown : s.vm.findClass "com/example/tinlet/tinlet/http/LogThrottle" = some m.cls := findClass_of_methodNamed Bd.named
  have hnm := (name_of_methodNamed Bd.named Bd.method).1
  have X0 : Stand p l e ({ frames := 1, cells := 0, slots := 0, locals := 12 } : Room) s m #[(.ref a1), (.long q2)] below meth c s₁ [] 0 0 := Stand.of_body Bd
  have e0 : s₁.heap = h0 := by rw [← hh, Bd.state]; rfl
  have N0 := Fr.nil n0
  have pre0 : ∀ t, Steps p.tables e below (s₁.setTop (mkF m 0 #[.val (.ref a1), .val (.long q2), .second] [])) t → Steps p.tables e below (s₁.setTop (entryFrame m #[(.ref a1), (.long q2)] 3)) t := fun t k => castTop (ef_1 m a1 q2) k
  obtain ⟨T3, X3, e3, st3⟩ := initO X0 hx hZ hown (hw _ (List.mem_of_getElem? (i := 6) rfl)) (hw _ (List.mem_of_getElem? (i := 7) rfl)) (hw _ (List.mem_of_getElem? (i := 8) rfl)) e0 (g := (mkF m 1 #[.val (.ref a1), .val (.long q2), .second] [(.ref a1)])) rfl (by rw [hml]; rfl) rfl (hb hby d1_1) (by decide) (W := 0) (by show 2 * 0 + _ ≤ _; exact Nat.le_of_eq rfl) (by decide)
  obtain ⟨T4, h4, X4, e4, W4, st4⟩ := putF X3 hx hZ hown (host := "") (Or.inl (hw _ (List.mem_of_getElem? (i := 9) rfl))) Via.refl e3 F_intervalNanos_a1 E_a1 (Or.inr ⟨(hw _ (List.mem_of_getElem? (i := 10) rfl)), rfl, hnm⟩) (hw _ (List.mem_of_getElem? (i := 1) rfl)) (ty := .long) (by decide) rfl rfl (g := (mkF m 6 #[.val (.ref a1), .val (.long q2), .second] [(.long q2), (.ref a1)])) rfl rfl (hb hby d1_6)
  have Fw4 := F_intervalNanos_a1.same W4
  have K4 : Keep h0 h4 [a1] := (Keep.refl h0 [a1]).wr W4 (Or.inl (List.mem_of_getElem? (i := 0) rfl))
  have N4 := Fr.snoc X4 N0 g_a1
  obtain ⟨fs, hr, hrun, hended, hW, hsame⟩ := X4.leave (v := none) (fun _ => rfl)
  refine ⟨_, _, pre0 _ ?_, hrun, hended, _, _, rfl, ?_, ⟨_, rfl⟩, hW, hsame.mono (by decide) (by decide)⟩
  · show Steps p.tables e below (s₁.setTop (mkF m 0 #[.val (.ref a1), .val (.long q2), .second] [])) _
    refine XS.aloadN X0.here hx rfl (hb hby d1_0) rfl rfl ?_
    show Steps p.tables e below (s₁.setTop (mkF m 1 #[.val (.ref a1), .val (.long q2), .second] [(.ref a1)])) _
    refine st3 _ ?_
    show Steps p.tables e below (T3.setTop (mkF m 4 #[.val (.ref a1), .val (.long q2), .second] [])) _
    refine XS.aloadN X3.here hx rfl (hb hby d1_4) rfl rfl ?_
    show Steps p.tables e below (T3.setTop (mkF m 5 #[.val (.ref a1), .val (.long q2), .second] [(.ref a1)])) _
    refine XS.lloadN X3.here hx rfl (hb hby d1_5) rfl ?_
    show Steps p.tables e below (T3.setTop (mkF m 6 #[.val (.ref a1), .val (.long q2), .second] [(.long q2), (.ref a1)])) _
    refine st4 _ ?_
    show Steps p.tables e below (T4.setTop (mkF m 9 #[.val (.ref a1), .val (.long q2), .second] [])) _
    exact X4.returnOut hx Bd.returns (hb hby d1_9) hr
  · show Q1 Z a1 q2 u_intervalNanos_a1 h0 n0 _ T4.heap _
    rw [e4]
    exact ⟨rfl, N4, K4, (E_a1.wr W4), Fw4, (F_occurrences_a1.other W4 (Or.inr (slot_ne (Or.inl (hw _ (List.mem_of_getElem? (i := 17) rfl))) (Or.inr (hw _ (List.mem_of_getElem? (i := 10) rfl))) (by decide) (t := .int) (t' := .long) (by decide) (by decide)))), (F_logged_a1.other W4 (Or.inr (slot_ne (Or.inl (hw _ (List.mem_of_getElem? (i := 19) rfl))) (Or.inr (hw _ (List.mem_of_getElem? (i := 10) rfl))) (by decide) (t := .boolean) (t' := .long) (by decide) (by decide)))), (F_lastLine_a1.other W4 (Or.inr (slot_ne (Or.inl (hw _ (List.mem_of_getElem? (i := 21) rfl))) (Or.inr (hw _ (List.mem_of_getElem? (i := 10) rfl))) (by decide) (t := .long) (t' := .long) (by decide) (by decide))))⟩
def own_cr (i : Int64) (o : Int32) (t now : Int64) : Int32 := if lcmpW (now - t) i < (0 : Int32) then (0 : Int32) else o + (1 : Int32)
def own_co (i : Int64) (o : Int32) (t now : Int64) : Int32 := if lcmpW (now - t) i < (0 : Int32) then o + (1 : Int32) else (0 : Int32)
def own_ct (i : Int64) (t now : Int64) : Int64 := if lcmpW (now - t) i < (0 : Int32) then t else now
def Qc (Z : State) (a1 : Addr) (r o : Int32) (t i : Int64) (h0 : Heap) (n0 : Nat) (v : Option Value) (h : Heap) (L : List Loc) : Prop := v = some (.int r) ∧ Fr n0 L ∧ Keep h0 h [a1] ∧ Exa Z h a1 "com/example/tinlet/tinlet/http/LogThrottle" ∧ Fld Z h a1 "com/example/tinlet/tinlet/http/LogThrottle" "occurrences" "I" (.int o) ∧ Fld Z h a1 "com/example/tinlet/tinlet/http/LogThrottle" "logged" "Z" (.int (1 : Int32)) ∧ Fld Z h a1 "com/example/tinlet/tinlet/http/LogThrottle" "lastLine" "J" (.long t) ∧ Fld Z h a1 "com/example/tinlet/tinlet/http/LogThrottle" "intervalNanos" "J" (.long i)
theorem d3_0 : decode prog_35_method_2_code 0 = .ok (.aload_n 0, 1) := by decide +kernel
theorem d3_1 : decode prog_35_method_2_code 1 = .ok (.dup, 1) := by decide +kernel
theorem d3_2 : decode prog_35_method_2_code 2 = .ok (.getfield 13, 3) := by decide +kernel
theorem d3_5 : decode prog_35_method_2_code 5 = .ok (.iconst 1, 1) := by decide +kernel
theorem d3_6 : decode prog_35_method_2_code 6 = .ok (.iadd, 1) := by decide +kernel
theorem d3_7 : decode prog_35_method_2_code 7 = .ok (.putfield 13, 3) := by decide +kernel
theorem d3_10 : decode prog_35_method_2_code 10 = .ok (.aload_n 0, 1) := by decide +kernel
theorem d3_11 : decode prog_35_method_2_code 11 = .ok (.getfield 17, 3) := by decide +kernel
theorem d3_14 : decode prog_35_method_2_code 14 = .ok (.ifCond .eq 19, 3) := by decide +kernel
theorem d3_33 : decode prog_35_method_2_code 33 = .ok (.aload_n 0, 1) := by decide +kernel
theorem d3_34 : decode prog_35_method_2_code 34 = .ok (.iconst 1, 1) := by decide +kernel
theorem d3_35 : decode prog_35_method_2_code 35 = .ok (.putfield 17, 3) := by decide +kernel
theorem d3_38 : decode prog_35_method_2_code 38 = .ok (.aload_n 0, 1) := by decide +kernel
theorem d3_39 : decode prog_35_method_2_code 39 = .ok (.lload_n 1, 1) := by decide +kernel
theorem d3_40 : decode prog_35_method_2_code 40 = .ok (.putfield 21, 3) := by decide +kernel
theorem d3_43 : decode prog_35_method_2_code 43 = .ok (.aload_n 0, 1) := by decide +kernel
theorem d3_44 : decode prog_35_method_2_code 44 = .ok (.getfield 13, 3) := by decide +kernel
theorem d3_47 : decode prog_35_method_2_code 47 = .ok (.istore_n 3, 1) := by decide +kernel
theorem d3_48 : decode prog_35_method_2_code 48 = .ok (.aload_n 0, 1) := by decide +kernel
theorem d3_49 : decode prog_35_method_2_code 49 = .ok (.iconst 0, 1) := by decide +kernel
theorem d3_50 : decode prog_35_method_2_code 50 = .ok (.putfield 13, 3) := by decide +kernel
theorem d3_53 : decode prog_35_method_2_code 53 = .ok (.iload_n 3, 1) := by decide +kernel
theorem d3_54 : decode prog_35_method_2_code 54 = .ok (.ireturn, 1) := by decide +kernel
theorem pn_3 : plainName "com/example/tinlet/tinlet/http/LogThrottle" = true := by first | (simp [plainName, overriddenIn]; done) | decide +kernel
theorem ef_3 (m : MethodId) (x0 : Addr) (x1 : Int64) : entryFrame m #[(.ref x0), (.long x1)] 4 = mkF m 0 #[.val (.ref x0), .val (.long x1), .second, .unset] [] := by first | (simp [entryFrame, mkF, argsToLocals, Value.category]; done) | rfl
set_option maxRecDepth 65536 in
set_option maxHeartbeats 40000000 in
theorem rm3_t (l : Launch) (Z : State) (a0 : Array Value) (hw : ∀ d ∈ tables_1, d.before a0 Z = true) (ws : List Jvm.Cond) (a1 : Addr) (q2 : Int64) (w3 : Int32) (w6 : Int32) (u_lastLine_a1 : Value) (w10 : Int64) (h0 : Heap) (n0 : Nat) (Z0 : n0 ≤ h0.size) (F_occurrences_a1 : Fld Z h0 a1 "com/example/tinlet/tinlet/http/LogThrottle" "occurrences" "I" (.int w3)) (E_a1 : Exa Z h0 a1 "com/example/tinlet/tinlet/http/LogThrottle") (g_a1 : n0 ≤ a1) (F_logged_a1 : Fld Z h0 a1 "com/example/tinlet/tinlet/http/LogThrottle" "logged" "Z" (.int w6)) (F_lastLine_a1 : Fld Z h0 a1 "com/example/tinlet/tinlet/http/LogThrottle" "lastLine" "J" u_lastLine_a1) (F_intervalNanos_a1 : Fld Z h0 a1 "com/example/tinlet/tinlet/http/LogThrottle" "intervalNanos" "J" (.long w10)) (hc14 : w6 = (0 : Int32)) :
    MetFree l (⟨"com/example/tinlet/tinlet/http/LogThrottle", "count", "(J)I"⟩ : MethodName) (head1 (Jvm.Cond.code (⟨"com/example/tinlet/tinlet/http/LogThrottle", "count", "(J)I"⟩ : MethodName) prog_35_method_2_code 4 (some .int) :: ws) ({ frames := 0, cells := 0, slots := 0, locals := 0 } : Room)) (fun a U => a = #[(.ref a1), (.long q2)] ∧ Z.Warmed39 U.vm ∧ U.heap = h0) (fun _ _ _ _ _ => True) (fun _ U o U' => ∃ v L, o = .returned v ∧ Qc Z a1 (w3 + (1 : Int32)) (0 : Int32) q2 w10 h0 n0 v U'.heap L ∧ FrameEnd U o U' L ({ frames := 0, cells := 0, slots := 0, locals := 0 } : Room).cells ({ frames := 0, cells := 0, slots := 0, locals := 0 } : Room).slots) := by
  refine MetFree.of_bodySF (plainFor_of_name pn_3) hisR ?_
  intro p e s m args below meth c s₁ Bd hml0 hP hK
  obtain ⟨rfl, hZ, hh⟩ := hP
  have hx := Bd.exec
  have hby := Bd.bytes
  have hml : c.maxLocals = 4 := hml0
  have hown : s.vm.findClass "com/example/tinlet/tinlet/http/LogThrottle" = some m.cls := findClass_of_methodNamed Bd.named
  have hnm := (name_of_methodNamed Bd.named Bd.method).1
  have X0 : Stand p l e ({ frames := 0, cells := 0, slots := 0, locals := 0 } : Room) s m #[(.ref a1), (.long q2)] below meth c s₁ [] 0 0 := Stand.of_body Bd
  have e0 : s₁.heap = h0 := by rw [← hh, Bd.state]; rfl
  have N0 := Fr.nil n0
  have pre0 : ∀ t, Steps p.tables e below (s₁.setTop (mkF m 0 #[.val (.ref a1), .val (.long q2), .second, .unset] [])) t → Steps p.tables e below (s₁.setTop (entryFrame m #[(.ref a1), (.long q2)] 4)) t := fun t k => castTop (ef_3 m a1 q2) k
  obtain ⟨T4, X4, e4, st4⟩ := getF X0 hx hZ hown (host := "") (Or.inl (hw _ (List.mem_of_getElem? (i := 16) rfl))) Via.refl e0 F_occurrences_a1 (g := (mkF m 2 #[.val (.ref a1), .val (.long q2), .second, .unset] [(.ref a1), (.ref a1)])) rfl rfl (hb hby d3_2)
  obtain ⟨T5, h5, X5, e5, W5, st5⟩ := putF X4 hx hZ hown (host := "") (Or.inl (hw _ (List.mem_of_getElem? (i := 16) rfl))) Via.refl e4 F_occurrences_a1 E_a1 (Or.inl (hw _ (List.mem_of_getElem? (i := 17) rfl))) (hw _ (List.mem_of_getElem? (i := 1) rfl)) (ty := .int) (by decide) rfl rfl (g := (mkF m 7 #[.val (.ref a1), .val (.long q2), .second, .unset] [(.int (w3 + (1 : Int32))), (.ref a1)])) rfl rfl (hb hby d3_7)
  have Fw5 := F_occurrences_a1.same W5
  have K5 : Keep h0 h5 [a1] := (Keep.refl h0 [a1]).wr W5 (Or.inl (List.mem_of_getElem? (i := 0) rfl))
  have N5 := Fr.snoc X5 N0 g_a1
  obtain ⟨T7, X7, e7, st7⟩ := getF X5 hx hZ hown (host := "") (Or.inl (hw _ (List.mem_of_getElem? (i := 18) rfl))) Via.refl e5 (F_logged_a1.other W5 (Or.inr (slot_ne (Or.inl (hw _ (List.mem_of_getElem? (i := 19) rfl))) (Or.inl (hw _ (List.mem_of_getElem? (i := 17) rfl))) (by decide) (t := .boolean) (t' := .int) (by decide) (by decide)))) (g := (mkF m 11 #[.val (.ref a1), .val (.long q2), .second, .unset] [(.ref a1)])) rfl rfl (hb hby d3_11)
  obtain ⟨T8, h8, X8, e8, W8, st8⟩ := putFN X7 hx hZ hown (hw _ (List.mem_of_getElem? (i := 18) rfl)) Via.refl e7 (F_logged_a1.other W5 (Or.inr (slot_ne (Or.inl (hw _ (List.mem_of_getElem? (i := 19) rfl))) (Or.inl (hw _ (List.mem_of_getElem? (i := 17) rfl))) (by decide) (t := .boolean) (t' := .int) (by decide) (by decide)))) (E_a1.wr W5) (Or.inl (hw _ (List.mem_of_getElem? (i := 19) rfl))) (hw _ (List.mem_of_getElem? (i := 1) rfl)) (ty := .boolean) (v' := (.int (1 : Int32))) (by decide) rfl rfl (g := (mkF m 35 #[.val (.ref a1), .val (.long q2), .second, .unset] [(.int (1 : Int32)), (.ref a1)])) rfl rfl (hb hby d3_35)
  have Fw8 := (F_logged_a1.other W5 (Or.inr (slot_ne (Or.inl (hw _ (List.mem_of_getElem? (i := 19) rfl))) (Or.inl (hw _ (List.mem_of_getElem? (i := 17) rfl))) (by decide) (t := .boolean) (t' := .int) (by decide) (by decide)))).same W8
  have K8 : Keep h0 h8 [a1] := K5.wr W8 (Or.inl (List.mem_of_getElem? (i := 0) rfl))
  have N8 := Fr.snoc X8 N5 g_a1
  obtain ⟨T9, h9, X9, e9, W9, st9⟩ := putF X8 hx hZ hown (host := "") (Or.inl (hw _ (List.mem_of_getElem? (i := 20) rfl))) Via.refl e8 ((F_lastLine_a1.other W5 (Or.inr (slot_ne (Or.inl (hw _ (List.mem_of_getElem? (i := 21) rfl))) (Or.inl (hw _ (List.mem_of_getElem? (i := 17) rfl))) (by decide) (t := .long) (t' := .int) (by decide) (by decide)))).other W8 (Or.inr (slot_ne (Or.inl (hw _ (List.mem_of_getElem? (i := 21) rfl))) (Or.inl (hw _ (List.mem_of_getElem? (i := 19) rfl))) (by decide) (t := .long) (t' := .boolean) (by decide) (by decide)))) ((E_a1.wr W5).wr W8) (Or.inl (hw _ (List.mem_of_getElem? (i := 21) rfl))) (hw _ (List.mem_of_getElem? (i := 1) rfl)) (ty := .long) (by decide) rfl rfl (g := (mkF m 40 #[.val (.ref a1), .val (.long q2), .second, .unset] [(.long q2), (.ref a1)])) rfl rfl (hb hby d3_40)
  have Fw9 := ((F_lastLine_a1.other W5 (Or.inr (slot_ne (Or.inl (hw _ (List.mem_of_getElem? (i := 21) rfl))) (Or.inl (hw _ (List.mem_of_getElem? (i := 17) rfl))) (by decide) (t := .long) (t' := .int) (by decide) (by decide)))).other W8 (Or.inr (slot_ne (Or.inl (hw _ (List.mem_of_getElem? (i := 21) rfl))) (Or.inl (hw _ (List.mem_of_getElem? (i := 19) rfl))) (by decide) (t := .long) (t' := .boolean) (by decide) (by decide)))).same W9
  have K9 : Keep h0 h9 [a1] := K8.wr W9 (Or.inl (List.mem_of_getElem? (i := 0) rfl))
  have N9 := Fr.snoc X9 N8 g_a1
  obtain ⟨T10, X10, e10, st10⟩ := getF X9 hx hZ hown (host := "") (Or.inl (hw _ (List.mem_of_getElem? (i := 16) rfl))) Via.refl e9 ((Fw5.other W8 (Or.inr (slot_ne (Or.inl (hw _ (List.mem_of_getElem? (i := 17) rfl))) (Or.inl (hw _ (List.mem_of_getElem? (i := 19) rfl))) (by decide) (t := .int) (t' := .boolean) (by decide) (by decide)))).other W9 (Or.inr (slot_ne (Or.inl (hw _ (List.mem_of_getElem? (i := 17) rfl))) (Or.inl (hw _ (List.mem_of_getElem? (i := 21) rfl))) (by decide) (t := .int) (t' := .long) (by decide) (by decide)))) (g := (mkF m 44 #[.val (.ref a1), .val (.long q2), .second, .unset] [(.ref a1)])) rfl rfl (hb hby d3_44)
  obtain ⟨T11, h11, X11, e11, W11, st11⟩ := putF X10 hx hZ hown (host := "") (Or.inl (hw _ (List.mem_of_getElem? (i := 16) rfl))) Via.refl e10 ((Fw5.other W8 (Or.inr (slot_ne (Or.inl (hw _ (List.mem_of_getElem? (i := 17) rfl))) (Or.inl (hw _ (List.mem_of_getElem? (i := 19) rfl))) (by decide) (t := .int) (t' := .boolean) (by decide) (by decide)))).other W9 (Or.inr (slot_ne (Or.inl (hw _ (List.mem_of_getElem? (i := 17) rfl))) (Or.inl (hw _ (List.mem_of_getElem? (i := 21) rfl))) (by decide) (t := .int) (t' := .long) (by decide) (by decide)))) (((E_a1.wr W5).wr W8).wr W9) (Or.inl (hw _ (List.mem_of_getElem? (i := 17) rfl))) (hw _ (List.mem_of_getElem? (i := 1) rfl)) (ty := .int) (by decide) rfl rfl (g := (mkF m 50 #[.val (.ref a1), .val (.long q2), .second, .val (.int (w3 + (1 : Int32)))] [(.int (0 : Int32)), (.ref a1)])) rfl rfl (hb hby d3_50)
  have Fw11 := ((Fw5.other W8 (Or.inr (slot_ne (Or.inl (hw _ (List.mem_of_getElem? (i := 17) rfl))) (Or.inl (hw _ (List.mem_of_getElem? (i := 19) rfl))) (by decide) (t := .int) (t' := .boolean) (by decide) (by decide)))).other W9 (Or.inr (slot_ne (Or.inl (hw _ (List.mem_of_getElem? (i := 17) rfl))) (Or.inl (hw _ (List.mem_of_getElem? (i := 21) rfl))) (by decide) (t := .int) (t' := .long) (by decide) (by decide)))).same W11
  have K11 : Keep h0 h11 [a1] := K9.wr W11 (Or.inl (List.mem_of_getElem? (i := 0) rfl))
  have N11 := Fr.snoc X11 N9 g_a1
  obtain ⟨fs, hr, hrun, hended, hW, hsame⟩ := X11.leave (v := some (.int (w3 + (1 : Int32)))) (fun h => by rw [Bd.returns] at h; cases h)
  refine ⟨_, _, pre0 _ ?_, hrun, hended, _, _, rfl, ?_, ⟨_, rfl⟩, hW, hsame.mono (by decide) (by decide)⟩
  · show Steps p.tables e below (s₁.setTop (mkF m 0 #[.val (.ref a1), .val (.long q2), .second, .unset] [])) _
    refine XS.aloadN X0.here hx rfl (hb hby d3_0) rfl rfl ?_
    show Steps p.tables e below (s₁.setTop (mkF m 1 #[.val (.ref a1), .val (.long q2), .second, .unset] [(.ref a1)])) _
    refine XS.dup X0.here hx rfl (hb hby d3_1) rfl rfl ?_
    show Steps p.tables e below (s₁.setTop (mkF m 2 #[.val (.ref a1), .val (.long q2), .second, .unset] [(.ref a1), (.ref a1)])) _
    refine st4 _ ?_
    show Steps p.tables e below (T4.setTop (mkF m 5 #[.val (.ref a1), .val (.long q2), .second, .unset] [(.int w3), (.ref a1)])) _
    refine XS.iconst X4.here hx rfl (hb hby d3_5) ?_
    show Steps p.tables e below (T4.setTop (mkF m 6 #[.val (.ref a1), .val (.long q2), .second, .unset] [(.int (1 : Int32)), (.int w3), (.ref a1)])) _
    refine XS.iadd X4.here hx rfl (hb hby d3_6) rfl ?_
    show Steps p.tables e below (T4.setTop (mkF m 7 #[.val (.ref a1), .val (.long q2), .second, .unset] [(.int (w3 + (1 : Int32))), (.ref a1)])) _
    refine st5 _ ?_
    show Steps p.tables e below (T5.setTop (mkF m 10 #[.val (.ref a1), .val (.long q2), .second, .unset] [])) _
    refine XS.aloadN X5.here hx rfl (hb hby d3_10) rfl rfl ?_
    show Steps p.tables e below (T5.setTop (mkF m 11 #[.val (.ref a1), .val (.long q2), .second, .unset] [(.ref a1)])) _
    refine st7 _ ?_
    show Steps p.tables e below (T7.setTop (mkF m 14 #[.val (.ref a1), .val (.long q2), .second, .unset] [(.int w6)])) _
    refine XS.ifYes X7.here hx rfl (pc0 := 14) (pc' := 33) rfl (hb hby d3_14) rfl ((if0 _ _).trans (teq hc14).1) (by decide) (by decide) ?_
    show Steps p.tables e below (T7.setTop (mkF m 33 #[.val (.ref a1), .val (.long q2), .second, .unset] [])) _
    refine XS.aloadN X7.here hx rfl (hb hby d3_33) rfl rfl ?_
    show Steps p.tables e below (T7.setTop (mkF m 34 #[.val (.ref a1), .val (.long q2), .second, .unset] [(.ref a1)])) _
    refine XS.iconst X7.here hx rfl (hb hby d3_34) ?_
    show Steps p.tables e below (T7.setTop (mkF m 35 #[.val (.ref a1), .val (.long q2), .second, .unset] [(.int (1 : Int32)), (.ref a1)])) _
    refine st8 _ ?_
    show Steps p.tables e below (T8.setTop (mkF m 38 #[.val (.ref a1), .val (.long q2), .second, .unset] [])) _
    refine XS.aloadN X8.here hx rfl (hb hby d3_38) rfl rfl ?_
    show Steps p.tables e below (T8.setTop (mkF m 39 #[.val (.ref a1), .val (.long q2), .second, .unset] [(.ref a1)])) _
    refine XS.lloadN X8.here hx rfl (hb hby d3_39) rfl ?_
    show Steps p.tables e below (T8.setTop (mkF m 40 #[.val (.ref a1), .val (.long q2), .second, .unset] [(.long q2), (.ref a1)])) _
    refine st9 _ ?_
    show Steps p.tables e below (T9.setTop (mkF m 43 #[.val (.ref a1), .val (.long q2), .second, .unset] [])) _
    refine XS.aloadN X9.here hx rfl (hb hby d3_43) rfl rfl ?_
    show Steps p.tables e below (T9.setTop (mkF m 44 #[.val (.ref a1), .val (.long q2), .second, .unset] [(.ref a1)])) _
    refine st10 _ ?_
    show Steps p.tables e below (T10.setTop (mkF m 47 #[.val (.ref a1), .val (.long q2), .second, .unset] [(.int (w3 + (1 : Int32)))])) _
    refine XS.istoreN X10.here hx rfl (hb hby d3_47) rfl (l' := #[.val (.ref a1), .val (.long q2), .second, .val (.int (w3 + (1 : Int32)))]) rfl ?_
    show Steps p.tables e below (T10.setTop (mkF m 48 #[.val (.ref a1), .val (.long q2), .second, .val (.int (w3 + (1 : Int32)))] [])) _
    refine XS.aloadN X10.here hx rfl (hb hby d3_48) rfl rfl ?_
    show Steps p.tables e below (T10.setTop (mkF m 49 #[.val (.ref a1), .val (.long q2), .second, .val (.int (w3 + (1 : Int32)))] [(.ref a1)])) _
    refine XS.iconst X10.here hx rfl (hb hby d3_49) ?_
    show Steps p.tables e below (T10.setTop (mkF m 50 #[.val (.ref a1), .val (.long q2), .second, .val (.int (w3 + (1 : Int32)))] [(.int (0 : Int32)), (.ref a1)])) _
    refine st11 _ ?_
    show Steps p.tables e below (T11.setTop (mkF m 53 #[.val (.ref a1), .val (.long q2), .second, .val (.int (w3 + (1 : Int32)))] [])) _
    refine XS.iloadN X11.here hx rfl (hb hby d3_53) rfl ?_
    show Steps p.tables e below (T11.setTop (mkF m 54 #[.val (.ref a1), .val (.long q2), .second, .val (.int (w3 + (1 : Int32)))] [(.int (w3 + (1 : Int32)))])) _
    exact retI X11 hx Bd.returns (hb hby d3_54) hr
  · show Qc Z a1 (w3 + (1 : Int32)) (0 : Int32) q2 w10 h0 n0 _ T11.heap _
    rw [e11]
    exact ⟨rfl, N11, K11, ((((E_a1.wr W5).wr W8).wr W9).wr W11), Fw11, ((Fw8.other W9 (Or.inr (slot_ne (Or.inl (hw _ (List.mem_of_getElem? (i := 19) rfl))) (Or.inl (hw _ (List.mem_of_getElem? (i := 21) rfl))) (by decide) (t := .boolean) (t' := .long) (by decide) (by decide)))).other W11 (Or.inr (slot_ne (Or.inl (hw _ (List.mem_of_getElem? (i := 19) rfl))) (Or.inl (hw _ (List.mem_of_getElem? (i := 17) rfl))) (by decide) (t := .boolean) (t' := .int) (by decide) (by decide)))), (Fw9.other W11 (Or.inr (slot_ne (Or.inl (hw _ (List.mem_of_getElem? (i := 21) rfl))) (Or.inl (hw _ (List.mem_of_getElem? (i := 17) rfl))) (by decide) (t := .long) (t' := .int) (by decide) (by decide)))), ((((F_intervalNanos_a1.other W5 (Or.inr (slot_ne (Or.inr (hw _ (List.mem_of_getElem? (i := 10) rfl))) (Or.inl (hw _ (List.mem_of_getElem? (i := 17) rfl))) (by decide) (t := .long) (t' := .int) (by decide) (by decide)))).other W8 (Or.inr (slot_ne (Or.inr (hw _ (List.mem_of_getElem? (i := 10) rfl))) (Or.inl (hw _ (List.mem_of_getElem? (i := 19) rfl))) (by decide) (t := .long) (t' := .boolean) (by decide) (by decide)))).other W9 (Or.inr (slot_ne (Or.inr (hw _ (List.mem_of_getElem? (i := 10) rfl))) (Or.inl (hw _ (List.mem_of_getElem? (i := 21) rfl))) (by decide) (t := .long) (t' := .long) (by decide) (by decide)))).other W11 (Or.inr (slot_ne (Or.inr (hw _ (List.mem_of_getElem? (i := 10) rfl))) (Or.inl (hw _ (List.mem_of_getElem? (i := 17) rfl))) (by decide) (t := .long) (t' := .int) (by decide) (by decide))))⟩
theorem d3_17 : decode prog_35_method_2_code 17 = .ok (.lload_n 1, 1) := by decide +kernel
theorem d3_18 : decode prog_35_method_2_code 18 = .ok (.aload_n 0, 1) := by decide +kernel
theorem d3_19 : decode prog_35_method_2_code 19 = .ok (.getfield 21, 3) := by decide +kernel
theorem d3_22 : decode prog_35_method_2_code 22 = .ok (.lsub, 1) := by decide +kernel
theorem d3_23 : decode prog_35_method_2_code 23 = .ok (.aload_n 0, 1) := by decide +kernel
theorem d3_24 : decode prog_35_method_2_code 24 = .ok (.getfield 7, 3) := by decide +kernel
theorem d3_27 : decode prog_35_method_2_code 27 = .ok (.lcmp, 1) := by decide +kernel
theorem d3_28 : decode prog_35_method_2_code 28 = .ok (.ifCond .ge 5, 3) := by decide +kernel
theorem d3_31 : decode prog_35_method_2_code 31 = .ok (.iconst 0, 1) := by decide +kernel
theorem d3_32 : decode prog_35_method_2_code 32 = .ok (.ireturn, 1) := by decide +kernel
set_option maxRecDepth 65536 in
set_option maxHeartbeats 40000000 in
theorem rm3_ff (l : Launch) (Z : State) (a0 : Array Value) (hw : ∀ d ∈ tables_1, d.before a0 Z = true) (ws : List Jvm.Cond) (a1 : Addr) (q2 : Int64) (w3 : Int32) (w8 : Int64) (w10 : Int64) (h0 : Heap) (n0 : Nat) (Z0 : n0 ≤ h0.size) (F_occurrences_a1 : Fld Z h0 a1 "com/example/tinlet/tinlet/http/LogThrottle" "occurrences" "I" (.int w3)) (E_a1 : Exa Z h0 a1 "com/example/tinlet/tinlet/http/LogThrottle") (g_a1 : n0 ≤ a1) (F_logged_a1 : Fld Z h0 a1 "com/example/tinlet/tinlet/http/LogThrottle" "logged" "Z" (.int (1 : Int32))) (F_lastLine_a1 : Fld Z h0 a1 "com/example/tinlet/tinlet/http/LogThrottle" "lastLine" "J" (.long w8)) (F_intervalNanos_a1 : Fld Z h0 a1 "com/example/tinlet/tinlet/http/LogThrottle" "intervalNanos" "J" (.long w10)) (hc14 : ¬ ((1 : Int32) = (0 : Int32))) (hc28 : (lcmpW (q2 - w8) w10) < (0 : Int32)) :
    MetFree l (⟨"com/example/tinlet/tinlet/http/LogThrottle", "count", "(J)I"⟩ : MethodName) (head1 (Jvm.Cond.code (⟨"com/example/tinlet/tinlet/http/LogThrottle", "count", "(J)I"⟩ : MethodName) prog_35_method_2_code 4 (some .int) :: ws) ({ frames := 0, cells := 0, slots := 0, locals := 0 } : Room)) (fun a U => a = #[(.ref a1), (.long q2)] ∧ Z.Warmed39 U.vm ∧ U.heap = h0) (fun _ _ _ _ _ => True) (fun _ U o U' => ∃ v L, o = .returned v ∧ Qc Z a1 (0 : Int32) (w3 + (1 : Int32)) w8 w10 h0 n0 v U'.heap L ∧ FrameEnd U o U' L ({ frames := 0, cells := 0, slots := 0, locals := 0 } : Room).cells ({ frames := 0, cells := 0, slots := 0, locals := 0 } : Room).slots) := by
  refine MetFree.of_bodySF (plainFor_of_name pn_3) hisR ?_
  intro p e s m args below meth c s₁ Bd hml0 hP hK
  obtain ⟨rfl, hZ, hh⟩ := hP
  have hx := Bd.exec
  have hby := Bd.bytes
  have hml : c.maxLocals = 4 := hml0
  have hown : s.vm.findClass "com/example/tinlet/tinlet/http/LogThrottle" = some m.cls := findClass_of_methodNamed Bd.named
  have hnm := (name_of_methodNamed Bd.named Bd.method).1
  have X0 : Stand p l e ({ frames := 0, cells := 0, slots := 0, locals := 0 } : Room) s m #[(.ref a1), (.long q2)] below meth c s₁ [] 0 0 := Stand.of_body Bd
  have e0 : s₁.heap = h0 := by rw [← hh, Bd.state]; rfl
  have N0 := Fr.nil n0
  have pre0 : ∀ t, Steps p.tables e below (s₁.setTop (mkF m 0 #[.val (.ref a1), .val (.long q2), .second, .unset] [])) t → Steps p.tables e below (s₁.setTop (entryFrame m #[(.ref a1), (.long q2)] 4)) t := fun t k => castTop (ef_3 m a1 q2) k
  obtain ⟨T4, X4, e4, st4⟩ := getF X0 hx hZ hown (host := "") (Or.inl (hw _ (List.mem_of_getElem? (i := 16) rfl))) Via.refl e0 F_occurrences_a1 (g := (mkF m 2 #[.val (.ref a1), .val (.long q2), .second, .unset] [(.ref a1), (.ref a1)])) rfl rfl (hb hby d3_2)
  obtain ⟨T5, h5, X5, e5, W5, st5⟩ := putF X4 hx hZ hown (host := "") (Or.inl (hw _ (List.mem_of_getElem? (i := 16) rfl))) Via.refl e4 F_occurrences_a1 E_a1 (Or.inl (hw _ (List.mem_of_getElem? (i := 17) rfl))) (hw _ (List.mem_of_getElem? (i := 1) rfl)) (ty := .int) (by decide) rfl rfl (g := (mkF m 7 #[.val (.ref a1), .val (.long q2), .second, .unset] [(.int (w3 + (1 : Int32))), (.ref a1)])) rfl rfl (hb hby d3_7)
  have Fw5 := F_occurrences_a1.same W5
  have K5 : Keep h0 h5 [a1] := (Keep.refl h0 [a1]).wr W5 (Or.inl (List.mem_of_getElem? (i := 0) rfl))
  have N5 := Fr.snoc X5 N0 g_a1
  obtain ⟨T7, X7, e7, st7⟩ := getF X5 hx hZ hown (host := "") (Or.inl (hw _ (List.mem_of_getElem? (i := 18) rfl))) Via.refl e5 (F_logged_a1.other W5 (Or.inr (slot_ne (Or.inl (hw _ (List.mem_of_getElem? (i := 19) rfl))) (Or.inl (hw _ (List.mem_of_getElem? (i := 17) rfl))) (by decide) (t := .boolean) (t' := .int) (by decide) (by decide)))) (g := (mkF m 11 #[.val (.ref a1), .val (.long q2), .second, .unset] [(.ref a1)])) rfl rfl (hb hby d3_11)
  obtain ⟨T9, X9, e9, st9⟩ := getF X7 hx hZ hown (host := "") (Or.inl (hw _ (List.mem_of_getElem? (i := 20) rfl))) Via.refl e7 (F_lastLine_a1.other W5 (Or.inr (slot_ne (Or.inl (hw _ (List.mem_of_getElem? (i := 21) rfl))) (Or.inl (hw _ (List.mem_of_getElem? (i := 17) rfl))) (by decide) (t := .long) (t' := .int) (by decide) (by decide)))) (g := (mkF m 19 #[.val (.ref a1), .val (.long q2), .second, .unset] [(.ref a1), (.long q2)])) rfl rfl (hb hby d3_19)
  obtain ⟨T11, X11, e11, st11⟩ := getF X9 hx hZ hown (host := "") (Or.inl (hw _ (List.mem_of_getElem? (i := 9) rfl))) Via.refl e9 (F_intervalNanos_a1.other W5 (Or.inr (slot_ne (Or.inr (hw _ (List.mem_of_getElem? (i := 10) rfl))) (Or.inl (hw _ (List.mem_of_getElem? (i := 17) rfl))) (by decide) (t := .long) (t' := .int) (by decide) (by decide)))) (g := (mkF m 24 #[.val (.ref a1), .val (.long q2), .second, .unset] [(.ref a1), (.long (q2 - w8))])) rfl rfl (hb hby d3_24)
  obtain ⟨fs, hr, hrun, hended, hW, hsame⟩ := X11.leave (v := some (.int (0 : Int32))) (fun h => by rw [Bd.returns] at h; cases h)
  refine ⟨_, _, pre0 _ ?_, hrun, hended, _, _, rfl, ?_, ⟨_, rfl⟩, hW, hsame.mono (by decide) (by decide)⟩
  · show Steps p.tables e below (s₁.setTop (mkF m 0 #[.val (.ref a1), .val (.long q2), .second, .unset] [])) _
    refine XS.aloadN X0.here hx rfl (hb hby d3_0) rfl rfl ?_
    show Steps p.tables e below (s₁.setTop (mkF m 1 #[.val (.ref a1), .val (.long q2), .second, .unset] [(.ref a1)])) _
    refine XS.dup X0.here hx rfl (hb hby d3_1) rfl rfl ?_
    show Steps p.tables e below (s₁.setTop (mkF m 2 #[.val (.ref a1), .val (.long q2), .second, .unset] [(.ref a1), (.ref a1)])) _
    refine st4 _ ?_
    show Steps p.tables e below (T4.setTop (mkF m 5 #[.val (.ref a1), .val (.long q2), .second, .unset] [(.int w3), (.ref a1)])) _
    refine XS.iconst X4.here hx rfl (hb hby d3_5) ?_
    show Steps p.tables e below (T4.setTop (mkF m 6 #[.val (.ref a1), .val (.long q2), .second, .unset] [(.int (1 : Int32)), (.int w3), (.ref a1)])) _
    refine XS.iadd X4.here hx rfl (hb hby d3_6) rfl ?_
    show Steps p.tables e below (T4.setTop (mkF m 7 #[.val (.ref a1), .val (.long q2), .second, .unset] [(.int (w3 + (1 : Int32))), (.ref a1)])) _
    refine st5 _ ?_
    show Steps p.tables e below (T5.setTop (mkF m 10 #[.val (.ref a1), .val (.long q2), .second, .unset] [])) _
    refine XS.aloadN X5.here hx rfl (hb hby d3_10) rfl rfl ?_
    show Steps p.tables e below (T5.setTop (mkF m 11 #[.val (.ref a1), .val (.long q2), .second, .unset] [(.ref a1)])) _
    refine st7 _ ?_
    show Steps p.tables e below (T7.setTop (mkF m 14 #[.val (.ref a1), .val (.long q2), .second, .unset] [(.int (1 : Int32))])) _
    refine XS.ifNo X7.here hx rfl (hb hby d3_14) rfl ((if0 _ _).trans (feq hc14).1) ?_
    show Steps p.tables e below (T7.setTop (mkF m 17 #[.val (.ref a1), .val (.long q2), .second, .unset] [])) _
    refine XS.lloadN X7.here hx rfl (hb hby d3_17) rfl ?_
    show Steps p.tables e below (T7.setTop (mkF m 18 #[.val (.ref a1), .val (.long q2), .second, .unset] [(.long q2)])) _
    refine XS.aloadN X7.here hx rfl (hb hby d3_18) rfl rfl ?_
    show Steps p.tables e below (T7.setTop (mkF m 19 #[.val (.ref a1), .val (.long q2), .second, .unset] [(.ref a1), (.long q2)])) _
    refine st9 _ ?_
    show Steps p.tables e below (T9.setTop (mkF m 22 #[.val (.ref a1), .val (.long q2), .second, .unset] [(.long w8), (.long q2)])) _
    refine XS.lsub X9.here hx rfl (hb hby d3_22) rfl ?_
    show Steps p.tables e below (T9.setTop (mkF m 23 #[.val (.ref a1), .val (.long q2), .second, .unset] [(.long (q2 - w8))])) _
    refine XS.aloadN X9.here hx rfl (hb hby d3_23) rfl rfl ?_
    show Steps p.tables e below (T9.setTop (mkF m 24 #[.val (.ref a1), .val (.long q2), .second, .unset] [(.ref a1), (.long (q2 - w8))])) _
    refine st11 _ ?_
    show Steps p.tables e below (T11.setTop (mkF m 27 #[.val (.ref a1), .val (.long q2), .second, .unset] [(.long w10), (.long (q2 - w8))])) _
    refine XS.lcmp X11.here hx rfl (hb hby d3_27) rfl ?_
    show Steps p.tables e below (T11.setTop (mkF m 28 #[.val (.ref a1), .val (.long q2), .second, .unset] [(.int (lcmpW (q2 - w8) w10))])) _
    refine XS.ifNo X11.here hx rfl (hb hby d3_28) rfl ((if0 _ _).trans (tlt hc28).2.1) ?_
    show Steps p.tables e below (T11.setTop (mkF m 31 #[.val (.ref a1), .val (.long q2), .second, .unset] [])) _
    refine XS.iconst X11.here hx rfl (hb hby d3_31) ?_
    show Steps p.tables e below (T11.setTop (mkF m 32 #[.val (.ref a1), .val (.long q2), .second, .unset] [(.int (0 : Int32))])) _
    exact retI X11 hx Bd.returns (hb hby d3_32) hr
  · show Qc Z a1 (0 : Int32) (w3 + (1 : Int32)) w8 w10 h0 n0 _ T11.heap _
    rw [e11]
    exact ⟨rfl, N5, K5, (E_a1.wr W5), Fw5, (F_logged_a1.other W5 (Or.inr (slot_ne (Or.inl (hw _ (List.mem_of_getElem? (i := 19) rfl))) (Or.inl (hw _ (List.mem_of_getElem? (i := 17) rfl))) (by decide) (t := .boolean) (t' := .int) (by decide) (by decide)))), (F_lastLine_a1.other W5 (Or.inr (slot_ne (Or.inl (hw _ (List.mem_of_getElem? (i := 21) rfl))) (Or.inl (hw _ (List.mem_of_getElem? (i := 17) rfl))) (by decide) (t := .long) (t' := .int) (by decide) (by decide)))), (F_intervalNanos_a1.other W5 (Or.inr (slot_ne (Or.inr (hw _ (List.mem_of_getElem? (i := 10) rfl))) (Or.inl (hw _ (List.mem_of_getElem? (i := 17) rfl))) (by decide) (t := .long) (t' := .int) (by decide) (by decide))))⟩
set_option maxRecDepth 65536 in
set_option maxHeartbeats 40000000 in
theorem rm3_ft (l : Launch) (Z : State) (a0 : Array Value) (hw : ∀ d ∈ tables_1, d.before a0 Z = true) (ws : List Jvm.Cond) (a1 : Addr) (q2 : Int64) (w3 : Int32) (w6 : Int32) (w8 : Int64) (w10 : Int64) (h0 : Heap) (n0 : Nat) (Z0 : n0 ≤ h0.size) (F_occurrences_a1 : Fld Z h0 a1 "com/example/tinlet/tinlet/http/LogThrottle" "occurrences" "I" (.int w3)) (E_a1 : Exa Z h0 a1 "com/example/tinlet/tinlet/http/LogThrottle") (g_a1 : n0 ≤ a1) (F_logged_a1 : Fld Z h0 a1 "com/example/tinlet/tinlet/http/LogThrottle" "logged" "Z" (.int w6)) (F_lastLine_a1 : Fld Z h0 a1 "com/example/tinlet/tinlet/http/LogThrottle" "lastLine" "J" (.long w8)) (F_intervalNanos_a1 : Fld Z h0 a1 "com/example/tinlet/tinlet/http/LogThrottle" "intervalNanos" "J" (.long w10)) (hc14 : ¬ (w6 = (0 : Int32))) (hc28 : ¬ ((lcmpW (q2 - w8) w10) < (0 : Int32))) :
    MetFree l (⟨"com/example/tinlet/tinlet/http/LogThrottle", "count", "(J)I"⟩ : MethodName) (head1 (Jvm.Cond.code (⟨"com/example/tinlet/tinlet/http/LogThrottle", "count", "(J)I"⟩ : MethodName) prog_35_method_2_code 4 (some .int) :: ws) ({ frames := 0, cells := 0, slots := 0, locals := 0 } : Room)) (fun a U => a = #[(.ref a1), (.long q2)] ∧ Z.Warmed39 U.vm ∧ U.heap = h0) (fun _ _ _ _ _ => True) (fun _ U o U' => ∃ v L, o = .returned v ∧ Qc Z a1 (w3 + (1 : Int32)) (0 : Int32) q2 w10 h0 n0 v U'.heap L ∧ FrameEnd U o U' L ({ frames := 0, cells := 0, slots := 0, locals := 0 } : Room).cells ({ frames := 0, cells := 0, slots := 0, locals := 0 } : Room).slots) := by
  refine MetFree.of_bodySF (plainFor_of_name pn_3) hisR ?_
  intro p e s m args below meth c s₁ Bd hml0 hP hK
  obtain ⟨rfl, hZ, hh⟩ := hP
  have hx := Bd.exec
  have hby := Bd.bytes
  have hml : c.maxLocals = 4 := hml0
  have hown : s.vm.findClass "com/example/tinlet/tinlet/http/LogThrottle" = some m.cls := findClass_of_methodNamed Bd.named
  have hnm := (name_of_methodNamed Bd.named Bd.method).1
  have X0 : Stand p l e ({ frames := 0, cells := 0, slots := 0, locals := 0 } : Room) s m #[(.ref a1), (.long q2)] below meth c s₁ [] 0 0 := Stand.of_body Bd
  have e0 : s₁.heap = h0 := by rw [← hh, Bd.state]; rfl
  have N0 := Fr.nil n0
  have pre0 : ∀ t, Steps p.tables e below (s₁.setTop (mkF m 0 #[.val (.ref a1), .val (.long q2), .second, .unset] [])) t → Steps p.tables e below (s₁.setTop (entryFrame m #[(.ref a1), (.long q2)] 4)) t := fun t k => castTop (ef_3 m a1 q2) k
  obtain ⟨T4, X4, e4, st4⟩ := getF X0 hx hZ hown (host := "") (Or.inl (hw _ (List.mem_of_getElem? (i := 16) rfl))) Via.refl e0 F_occurrences_a1 (g := (mkF m 2 #[.val (.ref a1), .val (.long q2), .second, .unset] [(.ref a1), (.ref a1)])) rfl rfl (hb hby d3_2)
  obtain ⟨T5, h5, X5, e5, W5, st5⟩ := putF X4 hx hZ hown (host := "") (Or.inl (hw _ (List.mem_of_getElem? (i := 16) rfl))) Via.refl e4 F_occurrences_a1 E_a1 (Or.inl (hw _ (List.mem_of_getElem? (i := 17) rfl))) (hw _ (List.mem_of_getElem? (i := 1) rfl)) (ty := .int) (by decide) rfl rfl (g := (mkF m 7 #[.val (.ref a1), .val (.long q2), .second, .unset] [(.int (w3 + (1 : Int32))), (.ref a1)])) rfl rfl (hb hby d3_7)
  have Fw5 := F_occurrences_a1.same W5
  have K5 : Keep h0 h5 [a1] := (Keep.refl h0 [a1]).wr W5 (Or.inl (List.mem_of_getElem? (i := 0) rfl))
  have N5 := Fr.snoc X5 N0 g_a1
  obtain ⟨T7, X7, e7, st7⟩ := getF X5 hx hZ hown (host := "") (Or.inl (hw _ (List.mem_of_getElem? (i := 18) rfl))) Via.refl e5 (F_logged_a1.other W5 (Or.inr (slot_ne (Or.inl (hw _ (List.mem_of_getElem? (i := 19) rfl))) (Or.inl (hw _ (List.mem_of_getElem? (i := 17) rfl))) (by decide) (t := .boolean) (t' := .int) (by decide) (by decide)))) (g := (mkF m 11 #[.val (.ref a1), .val (.long q2), .second, .unset] [(.ref a1)])) rfl rfl (hb hby d3_11)
  obtain ⟨T9, X9, e9, st9⟩ := getF X7 hx hZ hown (host := "") (Or.inl (hw _ (List.mem_of_getElem? (i := 20) rfl))) Via.refl e7 (F_lastLine_a1.other W5 (Or.inr (slot_ne (Or.inl (hw _ (List.mem_of_getElem? (i := 21) rfl))) (Or.inl (hw _ (List.mem_of_getElem? (i := 17) rfl))) (by decide) (t := .long) (t' := .int) (by decide) (by decide)))) (g := (mkF m 19 #[.val (.ref a1), .val (.long q2), .second, .unset] [(.ref a1), (.long q2)])) rfl rfl (hb hby d3_19)
  obtain ⟨T11, X11, e11, st11⟩ := getF X9 hx hZ hown (host := "") (Or.inl (hw _ (List.mem_of_getElem? (i := 9) rfl))) Via.refl e9 (F_intervalNanos_a1.other W5 (Or.inr (slot_ne (Or.inr (hw _ (List.mem_of_getElem? (i := 10) rfl))) (Or.inl (hw _ (List.mem_of_getElem? (i := 17) rfl))) (by decide) (t := .long) (t' := .int) (by decide) (by decide)))) (g := (mkF m 24 #[.val (.ref a1), .val (.long q2), .second, .unset] [(.ref a1), (.long (q2 - w8))])) rfl rfl (hb hby d3_24)
  obtain ⟨T12, h12, X12, e12, W12, st12⟩ := putFN X11 hx hZ hown (hw _ (List.mem_of_getElem? (i := 18) rfl)) Via.refl e11 (F_logged_a1.other W5 (Or.inr (slot_ne (Or.inl (hw _ (List.mem_of_getElem? (i := 19) rfl))) (Or.inl (hw _ (List.mem_of_getElem? (i := 17) rfl))) (by decide) (t := .boolean) (t' := .int) (by decide) (by decide)))) (E_a1.wr W5) (Or.inl (hw _ (List.mem_of_getElem? (i := 19) rfl))) (hw _ (List.mem_of_getElem? (i := 1) rfl)) (ty := .boolean) (v' := (.int (1 : Int32))) (by decide) rfl rfl (g := (mkF m 35 #[.val (.ref a1), .val (.long q2), .second, .unset] [(.int (1 : Int32)), (.ref a1)])) rfl rfl (hb hby d3_35)
  have Fw12 := (F_logged_a1.other W5 (Or.inr (slot_ne (Or.inl (hw _ (List.mem_of_getElem? (i := 19) rfl))) (Or.inl (hw _ (List.mem_of_getElem? (i := 17) rfl))) (by decide) (t := .boolean) (t' := .int) (by decide) (by decide)))).same W12
  have K12 : Keep h0 h12 [a1] := K5.wr W12 (Or.inl (List.mem_of_getElem? (i := 0) rfl))
  have N12 := Fr.snoc X12 N5 g_a1
  obtain ⟨T13, h13, X13, e13, W13, st13⟩ := putF X12 hx hZ hown (host := "") (Or.inl (hw _ (List.mem_of_getElem? (i := 20) rfl))) Via.refl e12 ((F_lastLine_a1.other W5 (Or.inr (slot_ne (Or.inl (hw _ (List.mem_of_getElem? (i := 21) rfl))) (Or.inl (hw _ (List.mem_of_getElem? (i := 17) rfl))) (by decide) (t := .long) (t' := .int) (by decide) (by decide)))).other W12 (Or.inr (slot_ne (Or.inl (hw _ (List.mem_of_getElem? (i := 21) rfl))) (Or.inl (hw _ (List.mem_of_getElem? (i := 19) rfl))) (by decide) (t := .long) (t' := .boolean) (by decide) (by decide)))) ((E_a1.wr W5).wr W12) (Or.inl (hw _ (List.mem_of_getElem? (i := 21) rfl))) (hw _ (List.mem_of_getElem? (i := 1) rfl)) (ty := .long) (by decide) rfl rfl (g := (mkF m 40 #[.val (.ref a1), .val (.long q2), .second, .unset] [(.long q2), (.ref a1)])) rfl rfl (hb hby d3_40)
  have Fw13 := ((F_lastLine_a1.other W5 (Or.inr (slot_ne (Or.inl (hw _ (List.mem_of_getElem? (i := 21) rfl))) (Or.inl (hw _ (List.mem_of_getElem? (i := 17) rfl))) (by decide) (t := .long) (t' := .int) (by decide) (by decide)))).other W12 (Or.inr (slot_ne (Or.inl (hw _ (List.mem_of_getElem? (i := 21) rfl))) (Or.inl (hw _ (List.mem_of_getElem? (i := 19) rfl))) (by decide) (t := .long) (t' := .boolean) (by decide) (by decide)))).same W13
  have K13 : Keep h0 h13 [a1] := K12.wr W13 (Or.inl (List.mem_of_getElem? (i := 0) rfl))
  have N13 := Fr.snoc X13 N12 g_a1
  obtain ⟨T14, X14, e14, st14⟩ := getF X13 hx hZ hown (host := "") (Or.inl (hw _ (List.mem_of_getElem? (i := 16) rfl))) Via.refl e13 ((Fw5.other W12 (Or.inr (slot_ne (Or.inl (hw _ (List.mem_of_getElem? (i := 17) rfl))) (Or.inl (hw _ (List.mem_of_getElem? (i := 19) rfl))) (by decide) (t := .int) (t' := .boolean) (by decide) (by decide)))).other W13 (Or.inr (slot_ne (Or.inl (hw _ (List.mem_of_getElem? (i := 17) rfl))) (Or.inl (hw _ (List.mem_of_getElem? (i := 21) rfl))) (by decide) (t := .int) (t' := .long) (by decide) (by decide)))) (g := (mkF m 44 #[.val (.ref a1), .val (.long q2), .second, .unset] [(.ref a1)])) rfl rfl (hb hby d3_44)
  obtain ⟨T15, h15, X15, e15, W15, st15⟩ := putF X14 hx hZ hown (host := "") (Or.inl (hw _ (List.mem_of_getElem? (i := 16) rfl))) Via.refl e14 ((Fw5.other W12 (Or.inr (slot_ne (Or.inl (hw _ (List.mem_of_getElem? (i := 17) rfl))) (Or.inl (hw _ (List.mem_of_getElem? (i := 19) rfl))) (by decide) (t := .int) (t' := .boolean) (by decide) (by decide)))).other W13 (Or.inr (slot_ne (Or.inl (hw _ (List.mem_of_getElem? (i := 17) rfl))) (Or.inl (hw _ (List.mem_of_getElem? (i := 21) rfl))) (by decide) (t := .int) (t' := .long) (by decide) (by decide)))) (((E_a1.wr W5).wr W12).wr W13) (Or.inl (hw _ (List.mem_of_getElem? (i := 17) rfl))) (hw _ (List.mem_of_getElem? (i := 1) rfl)) (ty := .int) (by decide) rfl rfl (g := (mkF m 50 #[.val (.ref a1), .val (.long q2), .second, .val (.int (w3 + (1 : Int32)))] [(.int (0 : Int32)), (.ref a1)])) rfl rfl (hb hby d3_50)
  have Fw15 := ((Fw5.other W12 (Or.inr (slot_ne (Or.inl (hw _ (List.mem_of_getElem? (i := 17) rfl))) (Or.inl (hw _ (List.mem_of_getElem? (i := 19) rfl))) (by decide) (t := .int) (t' := .boolean) (by decide) (by decide)))).other W13 (Or.inr (slot_ne (Or.inl (hw _ (List.mem_of_getElem? (i := 17) rfl))) (Or.inl (hw _ (List.mem_of_getElem? (i := 21) rfl))) (by decide) (t := .int) (t' := .long) (by decide) (by decide)))).same W15
  have K15 : Keep h0 h15 [a1] := K13.wr W15 (Or.inl (List.mem_of_getElem? (i := 0) rfl))
  have N15 := Fr.snoc X15 N13 g_a1
  obtain ⟨fs, hr, hrun, hended, hW, hsame⟩ := X15.leave (v := some (.int (w3 + (1 : Int32)))) (fun h => by rw [Bd.returns] at h; cases h)
  refine ⟨_, _, pre0 _ ?_, hrun, hended, _, _, rfl, ?_, ⟨_, rfl⟩, hW, hsame.mono (by decide) (by decide)⟩
  · show Steps p.tables e below (s₁.setTop (mkF m 0 #[.val (.ref a1), .val (.long q2), .second, .unset] [])) _
    refine XS.aloadN X0.here hx rfl (hb hby d3_0) rfl rfl ?_
    show Steps p.tables e below (s₁.setTop (mkF m 1 #[.val (.ref a1), .val (.long q2), .second, .unset] [(.ref a1)])) _
    refine XS.dup X0.here hx rfl (hb hby d3_1) rfl rfl ?_
    show Steps p.tables e below (s₁.setTop (mkF m 2 #[.val (.ref a1), .val (.long q2), .second, .unset] [(.ref a1), (.ref a1)])) _
    refine st4 _ ?_
    show Steps p.tables e below (T4.setTop (mkF m 5 #[.val (.ref a1), .val (.long q2), .second, .unset] [(.int w3), (.ref a1)])) _
    refine XS.iconst X4.here hx rfl (hb hby d3_5) ?_
    show Steps p.tables e below (T4.setTop (mkF m 6 #[.val (.ref a1), .val (.long q2), .second, .unset] [(.int (1 : Int32)), (.int w3), (.ref a1)])) _
    refine XS.iadd X4.here hx rfl (hb hby d3_6) rfl ?_
    show Steps p.tables e below (T4.setTop (mkF m 7 #[.val (.ref a1), .val (.long q2), .second, .unset] [(.int (w3 + (1 : Int32))), (.ref a1)])) _
    refine st5 _ ?_
    show Steps p.tables e below (T5.setTop (mkF m 10 #[.val (.ref a1), .val (.long q2), .second, .unset] [])) _
    refine XS.aloadN X5.here hx rfl (hb hby d3_10) rfl rfl ?_
    show Steps p.tables e below (T5.setTop (mkF m 11 #[.val (.ref a1), .val (.long q2), .second, .unset] [(.ref a1)])) _
    refine st7 _ ?_
    show Steps p.tables e below (T7.setTop (mkF m 14 #[.val (.ref a1), .val (.long q2), .second, .unset] [(.int w6)])) _
    refine XS.ifNo X7.here hx rfl (hb hby d3_14) rfl ((if0 _ _).trans (feq hc14).1) ?_
    show Steps p.tables e below (T7.setTop (mkF m 17 #[.val (.ref a1), .val (.long q2), .second, .unset] [])) _
    refine XS.lloadN X7.here hx rfl (hb hby d3_17) rfl ?_
    show Steps p.tables e below (T7.setTop (mkF m 18 #[.val (.ref a1), .val (.long q2), .second, .unset] [(.long q2)])) _
    refine XS.aloadN X7.here hx rfl (hb hby d3_18) rfl rfl ?_
    show Steps p.tables e below (T7.setTop (mkF m 19 #[.val (.ref a1), .val (.long q2), .second, .unset] [(.ref a1), (.long q2)])) _
    refine st9 _ ?_
    show Steps p.tables e below (T9.setTop (mkF m 22 #[.val (.ref a1), .val (.long q2), .second, .unset] [(.long w8), (.long q2)])) _
    refine XS.lsub X9.here hx rfl (hb hby d3_22) rfl ?_
    show Steps p.tables e below (T9.setTop (mkF m 23 #[.val (.ref a1), .val (.long q2), .second, .unset] [(.long (q2 - w8))])) _
    refine XS.aloadN X9.here hx rfl (hb hby d3_23) rfl rfl ?_
    show Steps p.tables e below (T9.setTop (mkF m 24 #[.val (.ref a1), .val (.long q2), .second, .unset] [(.ref a1), (.long (q2 - w8))])) _
    refine st11 _ ?_
    show Steps p.tables e below (T11.setTop (mkF m 27 #[.val (.ref a1), .val (.long q2), .second, .unset] [(.long w10), (.long (q2 - w8))])) _
    refine XS.lcmp X11.here hx rfl (hb hby d3_27) rfl ?_
    show Steps p.tables e below (T11.setTop (mkF m 28 #[.val (.ref a1), .val (.long q2), .second, .unset] [(.int (lcmpW (q2 - w8) w10))])) _
    refine XS.ifYes X11.here hx rfl (pc0 := 28) (pc' := 33) rfl (hb hby d3_28) rfl ((if0 _ _).trans (flt hc28).2.1) (by decide) (by decide) ?_
    show Steps p.tables e below (T11.setTop (mkF m 33 #[.val (.ref a1), .val (.long q2), .second, .unset] [])) _
    refine XS.aloadN X11.here hx rfl (hb hby d3_33) rfl rfl ?_
    show Steps p.tables e below (T11.setTop (mkF m 34 #[.val (.ref a1), .val (.long q2), .second, .unset] [(.ref a1)])) _
    refine XS.iconst X11.here hx rfl (hb hby d3_34) ?_
    show Steps p.tables e below (T11.setTop (mkF m 35 #[.val (.ref a1), .val (.long q2), .second, .unset] [(.int (1 : Int32)), (.ref a1)])) _
    refine st12 _ ?_
    show Steps p.tables e below (T12.setTop (mkF m 38 #[.val (.ref a1), .val (.long q2), .second, .unset] [])) _
    refine XS.aloadN X12.here hx rfl (hb hby d3_38) rfl rfl ?_
    show Steps p.tables e below (T12.setTop (mkF m 39 #[.val (.ref a1), .val (.long q2), .second, .unset] [(.ref a1)])) _
    refine XS.lloadN X12.here hx rfl (hb hby d3_39) rfl ?_
    show Steps p.tables e below (T12.setTop (mkF m 40 #[.val (.ref a1), .val (.long q2), .second, .unset] [(.long q2), (.ref a1)])) _
    refine st13 _ ?_
    show Steps p.tables e below (T13.setTop (mkF m 43 #[.val (.ref a1), .val (.long q2), .second, .unset] [])) _
    refine XS.aloadN X13.here hx rfl (hb hby d3_43) rfl rfl ?_
    show Steps p.tables e below (T13.setTop (mkF m 44 #[.val (.ref a1), .val (.long q2), .second, .unset] [(.ref a1)])) _
    refine st14 _ ?_
    show Steps p.tables e below (T14.setTop (mkF m 47 #[.val (.ref a1), .val (.long q2), .second, .unset] [(.int (w3 + (1 : Int32)))])) _
    refine XS.istoreN X14.here hx rfl (hb hby d3_47) rfl (l' := #[.val (.ref a1), .val (.long q2), .second, .val (.int (w3 + (1 : Int32)))]) rfl ?_
    show Steps p.tables e below (T14.setTop (mkF m 48 #[.val (.ref a1), .val (.long q2), .second, .val (.int (w3 + (1 : Int32)))] [])) _
    refine XS.aloadN X14.here hx rfl (hb hby d3_48) rfl rfl ?_
    show Steps p.tables e below (T14.setTop (mkF m 49 #[.val (.ref a1), .val (.long q2), .second, .val (.int (w3 + (1 : Int32)))] [(.ref a1)])) _
    refine XS.iconst X14.here hx rfl (hb hby d3_49) ?_
    show Steps p.tables e below (T14.setTop (mkF m 50 #[.val (.ref a1), .val (.long q2), .second, .val (.int (w3 + (1 : Int32)))] [(.int (0 : Int32)), (.ref a1)])) _
    refine st15 _ ?_
    show Steps p.tables e below (T15.setTop (mkF m 53 #[.val (.ref a1), .val (.long q2), .second, .val (.int (w3 + (1 : Int32)))] [])) _
    refine XS.iloadN X15.here hx rfl (hb hby d3_53) rfl ?_
    show Steps p.tables e below (T15.setTop (mkF m 54 #[.val (.ref a1), .val (.long q2), .second, .val (.int (w3 + (1 : Int32)))] [(.int (w3 + (1 : Int32)))])) _
    exact retI X15 hx Bd.returns (hb hby d3_54) hr
  · show Qc Z a1 (w3 + (1 : Int32)) (0 : Int32) q2 w10 h0 n0 _ T15.heap _
    rw [e15]
    exact ⟨rfl, N15, K15, ((((E_a1.wr W5).wr W12).wr W13).wr W15), Fw15, ((Fw12.other W13 (Or.inr (slot_ne (Or.inl (hw _ (List.mem_of_getElem? (i := 19) rfl))) (Or.inl (hw _ (List.mem_of_getElem? (i := 21) rfl))) (by decide) (t := .boolean) (t' := .long) (by decide) (by decide)))).other W15 (Or.inr (slot_ne (Or.inl (hw _ (List.mem_of_getElem? (i := 19) rfl))) (Or.inl (hw _ (List.mem_of_getElem? (i := 17) rfl))) (by decide) (t := .boolean) (t' := .int) (by decide) (by decide)))), (Fw13.other W15 (Or.inr (slot_ne (Or.inl (hw _ (List.mem_of_getElem? (i := 21) rfl))) (Or.inl (hw _ (List.mem_of_getElem? (i := 17) rfl))) (by decide) (t := .long) (t' := .int) (by decide) (by decide)))), ((((F_intervalNanos_a1.other W5 (Or.inr (slot_ne (Or.inr (hw _ (List.mem_of_getElem? (i := 10) rfl))) (Or.inl (hw _ (List.mem_of_getElem? (i := 17) rfl))) (by decide) (t := .long) (t' := .int) (by decide) (by decide)))).other W12 (Or.inr (slot_ne (Or.inr (hw _ (List.mem_of_getElem? (i := 10) rfl))) (Or.inl (hw _ (List.mem_of_getElem? (i := 19) rfl))) (by decide) (t := .long) (t' := .boolean) (by decide) (by decide)))).other W13 (Or.inr (slot_ne (Or.inr (hw _ (List.mem_of_getElem? (i := 10) rfl))) (Or.inl (hw _ (List.mem_of_getElem? (i := 21) rfl))) (by decide) (t := .long) (t' := .long) (by decide) (by decide)))).other W15 (Or.inr (slot_ne (Or.inr (hw _ (List.mem_of_getElem? (i := 10) rfl))) (Or.inl (hw _ (List.mem_of_getElem? (i := 17) rfl))) (by decide) (t := .long) (t' := .int) (by decide) (by decide))))⟩
theorem rm3 (l : Launch) (Z : State) (a0 : Array Value) (hw : ∀ d ∈ tables_1, d.before a0 Z = true) (ws : List Jvm.Cond) (a1 : Addr) (q2 : Int64) (w3 : Int32) (w8 : Int64) (w10 : Int64) (h0 : Heap) (n0 : Nat) (Z0 : n0 ≤ h0.size) (F_occurrences_a1 : Fld Z h0 a1 "com/example/tinlet/tinlet/http/LogThrottle" "occurrences" "I" (.int w3)) (E_a1 : Exa Z h0 a1 "com/example/tinlet/tinlet/http/LogThrottle") (g_a1 : n0 ≤ a1) (F_logged_a1 : Fld Z h0 a1 "com/example/tinlet/tinlet/http/LogThrottle" "logged" "Z" (.int (1 : Int32))) (F_lastLine_a1 : Fld Z h0 a1 "com/example/tinlet/tinlet/http/LogThrottle" "lastLine" "J" (.long w8)) (F_intervalNanos_a1 : Fld Z h0 a1 "com/example/tinlet/tinlet/http/LogThrottle" "intervalNanos" "J" (.long w10)) :
    MetFree l (⟨"com/example/tinlet/tinlet/http/LogThrottle", "count", "(J)I"⟩ : MethodName) (head1 (Jvm.Cond.code (⟨"com/example/tinlet/tinlet/http/LogThrottle", "count", "(J)I"⟩ : MethodName) prog_35_method_2_code 4 (some .int) :: ws) ({ frames := 0, cells := 0, slots := 0, locals := 0 } : Room)) (fun a U => a = #[(.ref a1), (.long q2)] ∧ Z.Warmed39 U.vm ∧ U.heap = h0) (fun _ _ _ _ _ => True) (fun _ U o U' => ∃ v L, o = .returned v ∧ Qc Z a1 (own_cr w10 w3 w8 q2) (own_co w10 w3 w8 q2) (own_ct w10 w8 q2) w10 h0 n0 v U'.heap L ∧ FrameEnd U o U' L ({ frames := 0, cells := 0, slots := 0, locals := 0 } : Room).cells ({ frames := 0, cells := 0, slots := 0, locals := 0 } : Room).slots) := by
  by_cases h : lcmpW (q2 - w8) w10 < (0 : Int32)
  · rw [own_cr, own_co, own_ct, if_pos h, if_pos h, if_pos h]
    exact rm3_ff l Z a0 hw ws a1 q2 w3 w8 w10 h0 n0 Z0 F_occurrences_a1 E_a1 g_a1 F_logged_a1 F_lastLine_a1 F_intervalNanos_a1 (by decide) h
  · rw [own_cr, own_co, own_ct, if_neg h, if_neg h, if_neg h]
    exact rm3_ft l Z a0 hw ws a1 q2 w3 (1 : Int32) w8 w10 h0 n0 Z0 F_occurrences_a1 E_a1 g_a1 F_logged_a1 F_lastLine_a1 F_intervalNanos_a1 (by decide) h
set_option maxRecDepth 65536 in
set_option maxHeartbeats 40000000 in
theorem own_j71_y {p : Program} {l : Launch} {e : Env} {R : Room} {s : State} {m : MethodId} {args : Array Value} {below : List Frame} {meth : Method} {c : Code} {T0 : State} {locs : List Loc} {cells slots : Nat} {j0 : Int64} {s2 : Slot} {s3 : Slot} {j4 : Int64} {s6 : Slot} {s7 : Slot} {s8 : Slot} {s9 : Slot} {s10 : Slot} {s11 : Slot} {s12 : Slot} {s13 : Slot} {s14 : Slot} {s15 : Slot} {s16 : Slot} {s17 : Slot} {s18 : Slot} {s19 : Slot} {s20 : Slot} {s21 : Slot} {s22 : Slot} {s23 : Slot} {s24 : Slot} {s25 : Slot} {s26 : Slot} {s27 : Slot} {s28 : Slot} {s29 : Slot} {s30 : Slot} {s31 : Slot}
    (X0 : Stand p l e R s m args below meth c T0 locs cells slots) (hx : p.tables.exec = Jvm.exec) (hby : c.code = code) (hc75 : (lcmpW j4 j0) < (0 : Int32)) :
    ∀ target, Steps p.tables e below (T0.setTop (mkF m 86 #[.val (.long j0), .second, s2, s3, .val (.long j4), .second, s6, s7, s8, s9, s10, s11, s12, s13, s14, s15, s16, s17, s18, s19, s20, s21, s22, s23, s24, s25, s26, s27, s28, s29, s30, s31] [(.int (0 : Int32))])) target → Steps p.tables e below (T0.setTop (mkF m 71 #[.val (.long j0), .second, s2, s3, .val (.long j4), .second, s6, s7, s8, s9, s10, s11, s12, s13, s14, s15, s16, s17, s18, s19, s20, s21, s22, s23, s24, s25, s26, s27, s28, s29, s30, s31] [])) target := by
  intro target kt
  show Steps p.tables e below (T0.setTop (mkF m 71 #[.val (.long j0), .second, s2, s3, .val (.long j4), .second, s6, s7, s8, s9, s10, s11, s12, s13, s14, s15, s16, s17, s18, s19, s20, s21, s22, s23, s24, s25, s26, s27, s28, s29, s30, s31] [])) _
  refine XS.lload X0.here hx rfl (hb hby at_71) rfl ?_
  show Steps p.tables e below (T0.setTop (mkF m 73 #[.val (.long j0), .second, s2, s3, .val (.long j4), .second, s6, s7, s8, s9, s10, s11, s12, s13, s14, s15, s16, s17, s18, s19, s20, s21, s22, s23, s24, s25, s26, s27, s28, s29, s30, s31] [(.long j4)])) _
  refine XS.lloadN X0.here hx rfl (hb hby at_73) rfl ?_
  show Steps p.tables e below (T0.setTop (mkF m 74 #[.val (.long j0), .second, s2, s3, .val (.long j4), .second, s6, s7, s8, s9, s10, s11, s12, s13, s14, s15, s16, s17, s18, s19, s20, s21, s22, s23, s24, s25, s26, s27, s28, s29, s30, s31] [(.long j0), (.long j4)])) _
  refine XS.lcmp X0.here hx rfl (hb hby at_74) rfl ?_
  show Steps p.tables e below (T0.setTop (mkF m 75 #[.val (.long j0), .second, s2, s3, .val (.long j4), .second, s6, s7, s8, s9, s10, s11, s12, s13, s14, s15, s16, s17, s18, s19, s20, s21, s22, s23, s24, s25, s26, s27, s28, s29, s30, s31] [(.int (lcmpW j4 j0))])) _
  refine XS.ifNo X0.here hx rfl (hb hby at_75) rfl ((if0 _ _).trans (tlt hc75).2.1) ?_
  show Steps p.tables e below (T0.setTop (mkF m 78 #[.val (.long j0), .second, s2, s3, .val (.long j4), .second, s6, s7, s8, s9, s10, s11, s12, s13, s14, s15, s16, s17, s18, s19, s20, s21, s22, s23, s24, s25, s26, s27, s28, s29, s30, s31] [])) _
  refine XS.iconst X0.here hx rfl (hb hby at_78) ?_
  show Steps p.tables e below (T0.setTop (mkF m 79 #[.val (.long j0), .second, s2, s3, .val (.long j4), .second, s6, s7, s8, s9, s10, s11, s12, s13, s14, s15, s16, s17, s18, s19, s20, s21, s22, s23, s24, s25, s26, s27, s28, s29, s30, s31] [(.int (0 : Int32))])) _
  refine XS.goto X0.here hx rfl (pc0 := 79) (pc' := 86) rfl (hb hby at_79) (by decide) (by decide) ?_
  exact kt
set_option maxRecDepth 65536 in
set_option maxHeartbeats 40000000 in
theorem own_j71_n {p : Program} {l : Launch} {e : Env} {R : Room} {s : State} {m : MethodId} {args : Array Value} {below : List Frame} {meth : Method} {c : Code} {T0 : State} {locs : List Loc} {cells slots : Nat} {j0 : Int64} {s2 : Slot} {s3 : Slot} {j4 : Int64} {s6 : Slot} {s7 : Slot} {s8 : Slot} {s9 : Slot} {s10 : Slot} {s11 : Slot} {s12 : Slot} {s13 : Slot} {s14 : Slot} {s15 : Slot} {s16 : Slot} {s17 : Slot} {s18 : Slot} {s19 : Slot} {s20 : Slot} {s21 : Slot} {i22 : Int32} {s23 : Slot} {s24 : Slot} {s25 : Slot} {s26 : Slot} {s27 : Slot} {s28 : Slot} {s29 : Slot} {s30 : Slot} {s31 : Slot}
    (X0 : Stand p l e R s m args below meth c T0 locs cells slots) (hx : p.tables.exec = Jvm.exec) (hby : c.code = code) (hc75 : ¬ ((lcmpW j4 j0) < (0 : Int32))) :
    ∀ target, Steps p.tables e below (T0.setTop (mkF m 86 #[.val (.long j0), .second, s2, s3, .val (.long j4), .second, s6, s7, s8, s9, s10, s11, s12, s13, s14, s15, s16, s17, s18, s19, s20, s21, .val (.int i22), s23, s24, s25, s26, s27, s28, s29, s30, s31] [(.int ((1 : Int32) - i22))])) target → Steps p.tables e below (T0.setTop (mkF m 71 #[.val (.long j0), .second, s2, s3, .val (.long j4), .second, s6, s7, s8, s9, s10, s11, s12, s13, s14, s15, s16, s17, s18, s19, s20, s21, .val (.int i22), s23, s24, s25, s26, s27, s28, s29, s30, s31] [])) target := by
  intro target kt
  show Steps p.tables e below (T0.setTop (mkF m 71 #[.val (.long j0), .second, s2, s3, .val (.long j4), .second, s6, s7, s8, s9, s10, s11, s12, s13, s14, s15, s16, s17, s18, s19, s20, s21, .val (.int i22), s23, s24, s25, s26, s27, s28, s29, s30, s31] [])) _
  refine XS.lload X0.here hx rfl (hb hby at_71) rfl ?_
  show Steps p.tables e below (T0.setTop (mkF m 73 #[.val (.long j0), .second, s2, s3, .val (.long j4), .second, s6, s7, s8, s9, s10, s11, s12, s13, s14, s15, s16, s17, s18, s19, s20, s21, .val (.int i22), s23, s24, s25, s26, s27, s28, s29, s30, s31] [(.long j4)])) _
  refine XS.lloadN X0.here hx rfl (hb hby at_73) rfl ?_
  show Steps p.tables e below (T0.setTop (mkF m 74 #[.val (.long j0), .second, s2, s3, .val (.long j4), .second, s6, s7, s8, s9, s10, s11, s12, s13, s14, s15, s16, s17, s18, s19, s20, s21, .val (.int i22), s23, s24, s25, s26, s27, s28, s29, s30, s31] [(.long j0), (.long j4)])) _
  refine XS.lcmp X0.here hx rfl (hb hby at_74) rfl ?_
  show Steps p.tables e below (T0.setTop (mkF m 75 #[.val (.long j0), .second, s2, s3, .val (.long j4), .second, s6, s7, s8, s9, s10, s11, s12, s13, s14, s15, s16, s17, s18, s19, s20, s21, .val (.int i22), s23, s24, s25, s26, s27, s28, s29, s30, s31] [(.int (lcmpW j4 j0))])) _
  refine XS.ifYes X0.here hx rfl (pc0 := 75) (pc' := 82) rfl (hb hby at_75) rfl ((if0 _ _).trans (flt hc75).2.1) (by decide) (by decide) ?_
  show Steps p.tables e below (T0.setTop (mkF m 82 #[.val (.long j0), .second, s2, s3, .val (.long j4), .second, s6, s7, s8, s9, s10, s11, s12, s13, s14, s15, s16, s17, s18, s19, s20, s21, .val (.int i22), s23, s24, s25, s26, s27, s28, s29, s30, s31] [])) _
  refine XS.iconst X0.here hx rfl (hb hby at_82) ?_
  show Steps p.tables e below (T0.setTop (mkF m 83 #[.val (.long j0), .second, s2, s3, .val (.long j4), .second, s6, s7, s8, s9, s10, s11, s12, s13, s14, s15, s16, s17, s18, s19, s20, s21, .val (.int i22), s23, s24, s25, s26, s27, s28, s29, s30, s31] [(.int (1 : Int32))])) _
  refine XS.iload X0.here hx rfl (hb hby at_83) rfl ?_
  show Steps p.tables e below (T0.setTop (mkF m 85 #[.val (.long j0), .second, s2, s3, .val (.long j4), .second, s6, s7, s8, s9, s10, s11, s12, s13, s14, s15, s16, s17, s18, s19, s20, s21, .val (.int i22), s23, s24, s25, s26, s27, s28, s29, s30, s31] [(.int i22), (.int (1 : Int32))])) _
  refine XS.isub X0.here hx rfl (hb hby at_85) rfl ?_
  exact kt
theorem own_j71 {p : Program} {l : Launch} {e : Env} {R : Room} {s : State} {m : MethodId} {args : Array Value} {below : List Frame} {meth : Method} {c : Code} {T0 : State} {locs : List Loc} {cells slots : Nat} {j0 : Int64} {s2 : Slot} {s3 : Slot} {j4 : Int64} {s6 : Slot} {s7 : Slot} {s8 : Slot} {s9 : Slot} {s10 : Slot} {s11 : Slot} {s12 : Slot} {s13 : Slot} {s14 : Slot} {s15 : Slot} {s16 : Slot} {s17 : Slot} {s18 : Slot} {s19 : Slot} {s20 : Slot} {s21 : Slot} {i22 : Int32} {s23 : Slot} {s24 : Slot} {s25 : Slot} {s26 : Slot} {s27 : Slot} {s28 : Slot} {s29 : Slot} {s30 : Slot} {s31 : Slot}
    (X0 : Stand p l e R s m args below meth c T0 locs cells slots) (hx : p.tables.exec = Jvm.exec) (hby : c.code = code) :
    ∀ target, Steps p.tables e below (T0.setTop (mkF m 86 #[.val (.long j0), .second, s2, s3, .val (.long j4), .second, s6, s7, s8, s9, s10, s11, s12, s13, s14, s15, s16, s17, s18, s19, s20, s21, .val (.int i22), s23, s24, s25, s26, s27, s28, s29, s30, s31] [(.int (if lcmpW j4 j0 < (0 : Int32) then (0 : Int32) else ((1 : Int32) - i22)))])) target → Steps p.tables e below (T0.setTop (mkF m 71 #[.val (.long j0), .second, s2, s3, .val (.long j4), .second, s6, s7, s8, s9, s10, s11, s12, s13, s14, s15, s16, s17, s18, s19, s20, s21, .val (.int i22), s23, s24, s25, s26, s27, s28, s29, s30, s31] [])) target := by
  intro target kt
  by_cases h : lcmpW j4 j0 < (0 : Int32)
  · rw [if_pos h] at kt; exact own_j71_y X0 hx hby h target kt
  · rw [if_neg h] at kt; exact own_j71_n X0 hx hby h target kt
set_option maxRecDepth 65536 in
set_option maxHeartbeats 40000000 in
theorem own_j88_y {p : Program} {l : Launch} {e : Env} {R : Room} {s : State} {m : MethodId} {args : Array Value} {below : List Frame} {meth : Method} {c : Code} {T0 : State} {locs : List Loc} {cells slots : Nat} {s0 : Slot} {s1 : Slot} {s2 : Slot} {s3 : Slot} {s4 : Slot} {s5 : Slot} {s6 : Slot} {s7 : Slot} {s8 : Slot} {s9 : Slot} {s10 : Slot} {s11 : Slot} {s12 : Slot} {s13 : Slot} {s14 : Slot} {s15 : Slot} {s16 : Slot} {s17 : Slot} {s18 : Slot} {s19 : Slot} {s20 : Slot} {s21 : Slot} {i22 : Int32} {i23 : Int32} {s24 : Slot} {s25 : Slot} {s26 : Slot} {s27 : Slot} {s28 : Slot} {s29 : Slot} {s30 : Slot} {s31 : Slot}
    (X0 : Stand p l e R s m args below meth c T0 locs cells slots) (hx : p.tables.exec = Jvm.exec) (hby : c.code = code) (hc90 : i23 = (0 : Int32)) :
    ∀ target, Steps p.tables e below (T0.setTop (mkF m 99 #[s0, s1, s2, s3, s4, s5, s6, s7, s8, s9, s10, s11, s12, s13, s14, s15, s16, s17, s18, s19, s20, s21, .val (.int i22), .val (.int i23), s24, s25, s26, s27, s28, s29, s30, s31] [(.int i22)])) target → Steps p.tables e below (T0.setTop (mkF m 88 #[s0, s1, s2, s3, s4, s5, s6, s7, s8, s9, s10, s11, s12, s13, s14, s15, s16, s17, s18, s19, s20, s21, .val (.int i22), .val (.int i23), s24, s25, s26, s27, s28, s29, s30, s31] [])) target := by
  intro target kt
  show Steps p.tables e below (T0.setTop (mkF m 88 #[s0, s1, s2, s3, s4, s5, s6, s7, s8, s9, s10, s11, s12, s13, s14, s15, s16, s17, s18, s19, s20, s21, .val (.int i22), .val (.int i23), s24, s25, s26, s27, s28, s29, s30, s31] [])) _
  refine XS.iload X0.here hx rfl (hb hby at_88) rfl ?_
  show Steps p.tables e below (T0.setTop (mkF m 90 #[s0, s1, s2, s3, s4, s5, s6, s7, s8, s9, s10, s11, s12, s13, s14, s15, s16, s17, s18, s19, s20, s21, .val (.int i22), .val (.int i23), s24, s25, s26, s27, s28, s29, s30, s31] [(.int i23)])) _
  refine XS.ifYes X0.here hx rfl (pc0 := 90) (pc' := 97) rfl (hb hby at_90) rfl ((if0 _ _).trans (teq hc90).1) (by decide) (by decide) ?_
  show Steps p.tables e below (T0.setTop (mkF m 97 #[s0, s1, s2, s3, s4, s5, s6, s7, s8, s9, s10, s11, s12, s13, s14, s15, s16, s17, s18, s19, s20, s21, .val (.int i22), .val (.int i23), s24, s25, s26, s27, s28, s29, s30, s31] [])) _
  refine XS.iload X0.here hx rfl (hb hby at_97) rfl ?_
  exact kt
set_option maxRecDepth 65536 in
set_option maxHeartbeats 40000000 in
theorem own_j88_n {p : Program} {l : Launch} {e : Env} {R : Room} {s : State} {m : MethodId} {args : Array Value} {below : List Frame} {meth : Method} {c : Code} {T0 : State} {locs : List Loc} {cells slots : Nat} {s0 : Slot} {s1 : Slot} {s2 : Slot} {s3 : Slot} {s4 : Slot} {s5 : Slot} {s6 : Slot} {s7 : Slot} {s8 : Slot} {s9 : Slot} {s10 : Slot} {s11 : Slot} {s12 : Slot} {s13 : Slot} {s14 : Slot} {s15 : Slot} {s16 : Slot} {s17 : Slot} {s18 : Slot} {s19 : Slot} {s20 : Slot} {s21 : Slot} {s22 : Slot} {i23 : Int32} {s24 : Slot} {s25 : Slot} {s26 : Slot} {s27 : Slot} {s28 : Slot} {s29 : Slot} {s30 : Slot} {s31 : Slot}
    (X0 : Stand p l e R s m args below meth c T0 locs cells slots) (hx : p.tables.exec = Jvm.exec) (hby : c.code = code) (hc90 : ¬ (i23 = (0 : Int32))) :
    ∀ target, Steps p.tables e below (T0.setTop (mkF m 99 #[s0, s1, s2, s3, s4, s5, s6, s7, s8, s9, s10, s11, s12, s13, s14, s15, s16, s17, s18, s19, s20, s21, s22, .val (.int i23), s24, s25, s26, s27, s28, s29, s30, s31] [(.int (1 : Int32))])) target → Steps p.tables e below (T0.setTop (mkF m 88 #[s0, s1, s2, s3, s4, s5, s6, s7, s8, s9, s10, s11, s12, s13, s14, s15, s16, s17, s18, s19, s20, s21, s22, .val (.int i23), s24, s25, s26, s27, s28, s29, s30, s31] [])) target := by
  intro target kt
  show Steps p.tables e below (T0.setTop (mkF m 88 #[s0, s1, s2, s3, s4, s5, s6, s7, s8, s9, s10, s11, s12, s13, s14, s15, s16, s17, s18, s19, s20, s21, s22, .val (.int i23), s24, s25, s26, s27, s28, s29, s30, s31] [])) _
  refine XS.iload X0.here hx rfl (hb hby at_88) rfl ?_
  show Steps p.tables e below (T0.setTop (mkF m 90 #[s0, s1, s2, s3, s4, s5, s6, s7, s8, s9, s10, s11, s12, s13, s14, s15, s16, s17, s18, s19, s20, s21, s22, .val (.int i23), s24, s25, s26, s27, s28, s29, s30, s31] [(.int i23)])) _
  refine XS.ifNo X0.here hx rfl (hb hby at_90) rfl ((if0 _ _).trans (feq hc90).1) ?_
  show Steps p.tables e below (T0.setTop (mkF m 93 #[s0, s1, s2, s3, s4, s5, s6, s7, s8, s9, s10, s11, s12, s13, s14, s15, s16, s17, s18, s19, s20, s21, s22, .val (.int i23), s24, s25, s26, s27, s28, s29, s30, s31] [])) _
  refine XS.iconst X0.here hx rfl (hb hby at_93) ?_
  show Steps p.tables e below (T0.setTop (mkF m 94 #[s0, s1, s2, s3, s4, s5, s6, s7, s8, s9, s10, s11, s12, s13, s14, s15, s16, s17, s18, s19, s20, s21, s22, .val (.int i23), s24, s25, s26, s27, s28, s29, s30, s31] [(.int (1 : Int32))])) _
  refine XS.goto X0.here hx rfl (pc0 := 94) (pc' := 99) rfl (hb hby at_94) (by decide) (by decide) ?_
  exact kt
theorem own_j88 {p : Program} {l : Launch} {e : Env} {R : Room} {s : State} {m : MethodId} {args : Array Value} {below : List Frame} {meth : Method} {c : Code} {T0 : State} {locs : List Loc} {cells slots : Nat} {s0 : Slot} {s1 : Slot} {s2 : Slot} {s3 : Slot} {s4 : Slot} {s5 : Slot} {s6 : Slot} {s7 : Slot} {s8 : Slot} {s9 : Slot} {s10 : Slot} {s11 : Slot} {s12 : Slot} {s13 : Slot} {s14 : Slot} {s15 : Slot} {s16 : Slot} {s17 : Slot} {s18 : Slot} {s19 : Slot} {s20 : Slot} {s21 : Slot} {i22 : Int32} {i23 : Int32} {s24 : Slot} {s25 : Slot} {s26 : Slot} {s27 : Slot} {s28 : Slot} {s29 : Slot} {s30 : Slot} {s31 : Slot}
    (X0 : Stand p l e R s m args below meth c T0 locs cells slots) (hx : p.tables.exec = Jvm.exec) (hby : c.code = code) :
    ∀ target, Steps p.tables e below (T0.setTop (mkF m 99 #[s0, s1, s2, s3, s4, s5, s6, s7, s8, s9, s10, s11, s12, s13, s14, s15, s16, s17, s18, s19, s20, s21, .val (.int i22), .val (.int i23), s24, s25, s26, s27, s28, s29, s30, s31] [(.int (if i23 = (0 : Int32) then i22 else (1 : Int32)))])) target → Steps p.tables e below (T0.setTop (mkF m 88 #[s0, s1, s2, s3, s4, s5, s6, s7, s8, s9, s10, s11, s12, s13, s14, s15, s16, s17, s18, s19, s20, s21, .val (.int i22), .val (.int i23), s24, s25, s26, s27, s28, s29, s30, s31] [])) target := by
  intro target kt
  by_cases h : i23 = (0 : Int32)
  · rw [if_pos h] at kt; exact own_j88_y X0 hx hby h target kt
  · rw [if_neg h] at kt; exact own_j88_n X0 hx hby h target kt
set_option maxRecDepth 65536 in
set_option maxHeartbeats 40000000 in
theorem own_j101_y {p : Program} {l : Launch} {e : Env} {R : Room} {s : State} {m : MethodId} {args : Array Value} {below : List Frame} {meth : Method} {c : Code} {T0 : State} {locs : List Loc} {cells slots : Nat} {s0 : Slot} {s1 : Slot} {s2 : Slot} {s3 : Slot} {s4 : Slot} {s5 : Slot} {j6 : Int64} {s8 : Slot} {s9 : Slot} {s10 : Slot} {s11 : Slot} {s12 : Slot} {s13 : Slot} {s14 : Slot} {s15 : Slot} {s16 : Slot} {s17 : Slot} {s18 : Slot} {s19 : Slot} {s20 : Slot} {s21 : Slot} {s22 : Slot} {s23 : Slot} {i24 : Int32} {s25 : Slot} {s26 : Slot} {s27 : Slot} {s28 : Slot} {s29 : Slot} {s30 : Slot} {s31 : Slot}
    (X0 : Stand p l e R s m args below meth c T0 locs cells slots) (hx : p.tables.exec = Jvm.exec) (hby : c.code = code) (hc104 : i24 = (1 : Int32)) :
    ∀ target, Steps p.tables e below (T0.setTop (mkF m 117 #[s0, s1, s2, s3, s4, s5, .val (.long j6), .second, s8, s9, s10, s11, s12, s13, s14, s15, s16, s17, s18, s19, s20, s21, s22, s23, .val (.int i24), s25, s26, s27, s28, s29, s30, s31] [(.long j6)])) target → Steps p.tables e below (T0.setTop (mkF m 101 #[s0, s1, s2, s3, s4, s5, .val (.long j6), .second, s8, s9, s10, s11, s12, s13, s14, s15, s16, s17, s18, s19, s20, s21, s22, s23, .val (.int i24), s25, s26, s27, s28, s29, s30, s31] [])) target := by
  intro target kt
  show Steps p.tables e below (T0.setTop (mkF m 101 #[s0, s1, s2, s3, s4, s5, .val (.long j6), .second, s8, s9, s10, s11, s12, s13, s14, s15, s16, s17, s18, s19, s20, s21, s22, s23, .val (.int i24), s25, s26, s27, s28, s29, s30, s31] [])) _
  refine XS.iload X0.here hx rfl (hb hby at_101) rfl ?_
  show Steps p.tables e below (T0.setTop (mkF m 103 #[s0, s1, s2, s3, s4, s5, .val (.long j6), .second, s8, s9, s10, s11, s12, s13, s14, s15, s16, s17, s18, s19, s20, s21, s22, s23, .val (.int i24), s25, s26, s27, s28, s29, s30, s31] [(.int i24)])) _
  refine XS.iconst X0.here hx rfl (hb hby at_103) ?_
  show Steps p.tables e below (T0.setTop (mkF m 104 #[s0, s1, s2, s3, s4, s5, .val (.long j6), .second, s8, s9, s10, s11, s12, s13, s14, s15, s16, s17, s18, s19, s20, s21, s22, s23, .val (.int i24), s25, s26, s27, s28, s29, s30, s31] [(.int (1 : Int32)), (.int i24)])) _
  refine XS.icmpNo X0.here hx rfl (hb hby at_104) rfl (teq hc104).2 ?_
  show Steps p.tables e below (T0.setTop (mkF m 107 #[s0, s1, s2, s3, s4, s5, .val (.long j6), .second, s8, s9, s10, s11, s12, s13, s14, s15, s16, s17, s18, s19, s20, s21, s22, s23, .val (.int i24), s25, s26, s27, s28, s29, s30, s31] [])) _
  refine XS.lload X0.here hx rfl (hb hby at_107) rfl ?_
  show Steps p.tables e below (T0.setTop (mkF m 109 #[s0, s1, s2, s3, s4, s5, .val (.long j6), .second, s8, s9, s10, s11, s12, s13, s14, s15, s16, s17, s18, s19, s20, s21, s22, s23, .val (.int i24), s25, s26, s27, s28, s29, s30, s31] [(.long j6)])) _
  refine XS.goto X0.here hx rfl (pc0 := 109) (pc' := 117) rfl (hb hby at_109) (by decide) (by decide) ?_
  exact kt
set_option maxRecDepth 65536 in
set_option maxHeartbeats 40000000 in
theorem own_j101_n {p : Program} {l : Launch} {e : Env} {R : Room} {s : State} {m : MethodId} {args : Array Value} {below : List Frame} {meth : Method} {c : Code} {T0 : State} {locs : List Loc} {cells slots : Nat} {s0 : Slot} {s1 : Slot} {s2 : Slot} {s3 : Slot} {j4 : Int64} {j6 : Int64} {s8 : Slot} {s9 : Slot} {s10 : Slot} {s11 : Slot} {s12 : Slot} {s13 : Slot} {s14 : Slot} {s15 : Slot} {s16 : Slot} {s17 : Slot} {s18 : Slot} {s19 : Slot} {s20 : Slot} {s21 : Slot} {s22 : Slot} {s23 : Slot} {i24 : Int32} {s25 : Slot} {s26 : Slot} {s27 : Slot} {s28 : Slot} {s29 : Slot} {s30 : Slot} {s31 : Slot}
    (X0 : Stand p l e R s m args below meth c T0 locs cells slots) (hx : p.tables.exec = Jvm.exec) (hby : c.code = code) (hc104 : ¬ (i24 = (1 : Int32))) :
    ∀ target, Steps p.tables e below (T0.setTop (mkF m 117 #[s0, s1, s2, s3, .val (.long j4), .second, .val (.long j6), .second, s8, s9, s10, s11, s12, s13, s14, s15, s16, s17, s18, s19, s20, s21, s22, s23, .val (.int i24), s25, s26, s27, s28, s29, s30, s31] [(.long (j4 + j6))])) target → Steps p.tables e below (T0.setTop (mkF m 101 #[s0, s1, s2, s3, .val (.long j4), .second, .val (.long j6), .second, s8, s9, s10, s11, s12, s13, s14, s15, s16, s17, s18, s19, s20, s21, s22, s23, .val (.int i24), s25, s26, s27, s28, s29, s30, s31] [])) target := by
  intro target kt
  show Steps p.tables e below (T0.setTop (mkF m 101 #[s0, s1, s2, s3, .val (.long j4), .second, .val (.long j6), .second, s8, s9, s10, s11, s12, s13, s14, s15, s16, s17, s18, s19, s20, s21, s22, s23, .val (.int i24), s25, s26, s27, s28, s29, s30, s31] [])) _
  refine XS.iload X0.here hx rfl (hb hby at_101) rfl ?_
  show Steps p.tables e below (T0.setTop (mkF m 103 #[s0, s1, s2, s3, .val (.long j4), .second, .val (.long j6), .second, s8, s9, s10, s11, s12, s13, s14, s15, s16, s17, s18, s19, s20, s21, s22, s23, .val (.int i24), s25, s26, s27, s28, s29, s30, s31] [(.int i24)])) _
  refine XS.iconst X0.here hx rfl (hb hby at_103) ?_
  show Steps p.tables e below (T0.setTop (mkF m 104 #[s0, s1, s2, s3, .val (.long j4), .second, .val (.long j6), .second, s8, s9, s10, s11, s12, s13, s14, s15, s16, s17, s18, s19, s20, s21, s22, s23, .val (.int i24), s25, s26, s27, s28, s29, s30, s31] [(.int (1 : Int32)), (.int i24)])) _
  refine XS.icmpYes X0.here hx rfl (pc0 := 104) (pc' := 112) rfl (hb hby at_104) rfl (feq hc104).2 (by decide) (by decide) ?_
  show Steps p.tables e below (T0.setTop (mkF m 112 #[s0, s1, s2, s3, .val (.long j4), .second, .val (.long j6), .second, s8, s9, s10, s11, s12, s13, s14, s15, s16, s17, s18, s19, s20, s21, s22, s23, .val (.int i24), s25, s26, s27, s28, s29, s30, s31] [])) _
  refine XS.lload X0.here hx rfl (hb hby at_112) rfl ?_
  show Steps p.tables e below (T0.setTop (mkF m 114 #[s0, s1, s2, s3, .val (.long j4), .second, .val (.long j6), .second, s8, s9, s10, s11, s12, s13, s14, s15, s16, s17, s18, s19, s20, s21, s22, s23, .val (.int i24), s25, s26, s27, s28, s29, s30, s31] [(.long j4)])) _
  refine XS.lload X0.here hx rfl (hb hby at_114) rfl ?_
  show Steps p.tables e below (T0.setTop (mkF m 116 #[s0, s1, s2, s3, .val (.long j4), .second, .val (.long j6), .second, s8, s9, s10, s11, s12, s13, s14, s15, s16, s17, s18, s19, s20, s21, s22, s23, .val (.int i24), s25, s26, s27, s28, s29, s30, s31] [(.long j6), (.long j4)])) _
  refine XS.ladd X0.here hx rfl (hb hby at_116) rfl ?_
  exact kt
theorem own_j101 {p : Program} {l : Launch} {e : Env} {R : Room} {s : State} {m : MethodId} {args : Array Value} {below : List Frame} {meth : Method} {c : Code} {T0 : State} {locs : List Loc} {cells slots : Nat} {s0 : Slot} {s1 : Slot} {s2 : Slot} {s3 : Slot} {j4 : Int64} {j6 : Int64} {s8 : Slot} {s9 : Slot} {s10 : Slot} {s11 : Slot} {s12 : Slot} {s13 : Slot} {s14 : Slot} {s15 : Slot} {s16 : Slot} {s17 : Slot} {s18 : Slot} {s19 : Slot} {s20 : Slot} {s21 : Slot} {s22 : Slot} {s23 : Slot} {i24 : Int32} {s25 : Slot} {s26 : Slot} {s27 : Slot} {s28 : Slot} {s29 : Slot} {s30 : Slot} {s31 : Slot}
    (X0 : Stand p l e R s m args below meth c T0 locs cells slots) (hx : p.tables.exec = Jvm.exec) (hby : c.code = code) :
    ∀ target, Steps p.tables e below (T0.setTop (mkF m 117 #[s0, s1, s2, s3, .val (.long j4), .second, .val (.long j6), .second, s8, s9, s10, s11, s12, s13, s14, s15, s16, s17, s18, s19, s20, s21, s22, s23, .val (.int i24), s25, s26, s27, s28, s29, s30, s31] [(.long (if i24 = (1 : Int32) then j6 else (j4 + j6)))])) target → Steps p.tables e below (T0.setTop (mkF m 101 #[s0, s1, s2, s3, .val (.long j4), .second, .val (.long j6), .second, s8, s9, s10, s11, s12, s13, s14, s15, s16, s17, s18, s19, s20, s21, s22, s23, .val (.int i24), s25, s26, s27, s28, s29, s30, s31] [])) target := by
  intro target kt
  by_cases h : i24 = (1 : Int32)
  · rw [if_pos h] at kt; exact own_j101_y X0 hx hby h target kt
  · rw [if_neg h] at kt; exact own_j101_n X0 hx hby h target kt
set_option maxRecDepth 65536 in
set_option maxHeartbeats 40000000 in
theorem own_j119_y {p : Program} {l : Launch} {e : Env} {R : Room} {s : State} {m : MethodId} {args : Array Value} {below : List Frame} {meth : Method} {c : Code} {T0 : State} {locs : List Loc} {cells slots : Nat} {j0 : Int64} {s2 : Slot} {s3 : Slot} {s4 : Slot} {s5 : Slot} {s6 : Slot} {s7 : Slot} {s8 : Slot} {s9 : Slot} {s10 : Slot} {s11 : Slot} {s12 : Slot} {s13 : Slot} {s14 : Slot} {s15 : Slot} {s16 : Slot} {s17 : Slot} {s18 : Slot} {s19 : Slot} {s20 : Slot} {s21 : Slot} {s22 : Slot} {s23 : Slot} {s24 : Slot} {j25 : Int64} {s27 : Slot} {s28 : Slot} {s29 : Slot} {s30 : Slot} {s31 : Slot}
    (X0 : Stand p l e R s m args below meth c T0 locs cells slots) (hx : p.tables.exec = Jvm.exec) (hby : c.code = code) (hc123 : (lcmpW j25 j0) < (0 : Int32)) :
    ∀ target, Steps p.tables e below (T0.setTop (mkF m 134 #[.val (.long j0), .second, s2, s3, s4, s5, s6, s7, s8, s9, s10, s11, s12, s13, s14, s15, s16, s17, s18, s19, s20, s21, s22, s23, s24, .val (.long j25), .second, s27, s28, s29, s30, s31] [(.int (0 : Int32))])) target → Steps p.tables e below (T0.setTop (mkF m 119 #[.val (.long j0), .second, s2, s3, s4, s5, s6, s7, s8, s9, s10, s11, s12, s13, s14, s15, s16, s17, s18, s19, s20, s21, s22, s23, s24, .val (.long j25), .second, s27, s28, s29, s30, s31] [])) target := by
  intro target kt
  show Steps p.tables e below (T0.setTop (mkF m 119 #[.val (.long j0), .second, s2, s3, s4, s5, s6, s7, s8, s9, s10, s11, s12, s13, s14, s15, s16, s17, s18, s19, s20, s21, s22, s23, s24, .val (.long j25), .second, s27, s28, s29, s30, s31] [])) _
  refine XS.lload X0.here hx rfl (hb hby at_119) rfl ?_
  show Steps p.tables e below (T0.setTop (mkF m 121 #[.val (.long j0), .second, s2, s3, s4, s5, s6, s7, s8, s9, s10, s11, s12, s13, s14, s15, s16, s17, s18, s19, s20, s21, s22, s23, s24, .val (.long j25), .second, s27, s28, s29, s30, s31] [(.long j25)])) _
  refine XS.lloadN X0.here hx rfl (hb hby at_121) rfl ?_
  show Steps p.tables e below (T0.setTop (mkF m 122 #[.val (.long j0), .second, s2, s3, s4, s5, s6, s7, s8, s9, s10, s11, s12, s13, s14, s15, s16, s17, s18, s19, s20, s21, s22, s23, s24, .val (.long j25), .second, s27, s28, s29, s30, s31] [(.long j0), (.long j25)])) _
  refine XS.lcmp X0.here hx rfl (hb hby at_122) rfl ?_
  show Steps p.tables e below (T0.setTop (mkF m 123 #[.val (.long j0), .second, s2, s3, s4, s5, s6, s7, s8, s9, s10, s11, s12, s13, s14, s15, s16, s17, s18, s19, s20, s21, s22, s23, s24, .val (.long j25), .second, s27, s28, s29, s30, s31] [(.int (lcmpW j25 j0))])) _
  refine XS.ifNo X0.here hx rfl (hb hby at_123) rfl ((if0 _ _).trans (tlt hc123).2.1) ?_
  show Steps p.tables e below (T0.setTop (mkF m 126 #[.val (.long j0), .second, s2, s3, s4, s5, s6, s7, s8, s9, s10, s11, s12, s13, s14, s15, s16, s17, s18, s19, s20, s21, s22, s23, s24, .val (.long j25), .second, s27, s28, s29, s30, s31] [])) _
  refine XS.iconst X0.here hx rfl (hb hby at_126) ?_
  show Steps p.tables e below (T0.setTop (mkF m 127 #[.val (.long j0), .second, s2, s3, s4, s5, s6, s7, s8, s9, s10, s11, s12, s13, s14, s15, s16, s17, s18, s19, s20, s21, s22, s23, s24, .val (.long j25), .second, s27, s28, s29, s30, s31] [(.int (0 : Int32))])) _
  refine XS.goto X0.here hx rfl (pc0 := 127) (pc' := 134) rfl (hb hby at_127) (by decide) (by decide) ?_
  exact kt
set_option maxRecDepth 65536 in
set_option maxHeartbeats 40000000 in
theorem own_j119_n {p : Program} {l : Launch} {e : Env} {R : Room} {s : State} {m : MethodId} {args : Array Value} {below : List Frame} {meth : Method} {c : Code} {T0 : State} {locs : List Loc} {cells slots : Nat} {j0 : Int64} {s2 : Slot} {s3 : Slot} {s4 : Slot} {s5 : Slot} {s6 : Slot} {s7 : Slot} {s8 : Slot} {s9 : Slot} {s10 : Slot} {s11 : Slot} {s12 : Slot} {s13 : Slot} {s14 : Slot} {s15 : Slot} {s16 : Slot} {s17 : Slot} {s18 : Slot} {s19 : Slot} {s20 : Slot} {s21 : Slot} {s22 : Slot} {s23 : Slot} {i24 : Int32} {j25 : Int64} {s27 : Slot} {s28 : Slot} {s29 : Slot} {s30 : Slot} {s31 : Slot}
    (X0 : Stand p l e R s m args below meth c T0 locs cells slots) (hx : p.tables.exec = Jvm.exec) (hby : c.code = code) (hc123 : ¬ ((lcmpW j25 j0) < (0 : Int32))) :
    ∀ target, Steps p.tables e below (T0.setTop (mkF m 134 #[.val (.long j0), .second, s2, s3, s4, s5, s6, s7, s8, s9, s10, s11, s12, s13, s14, s15, s16, s17, s18, s19, s20, s21, s22, s23, .val (.int i24), .val (.long j25), .second, s27, s28, s29, s30, s31] [(.int ((2 : Int32) - i24))])) target → Steps p.tables e below (T0.setTop (mkF m 119 #[.val (.long j0), .second, s2, s3, s4, s5, s6, s7, s8, s9, s10, s11, s12, s13, s14, s15, s16, s17, s18, s19, s20, s21, s22, s23, .val (.int i24), .val (.long j25), .second, s27, s28, s29, s30, s31] [])) target := by
  intro target kt
  show Steps p.tables e below (T0.setTop (mkF m 119 #[.val (.long j0), .second, s2, s3, s4, s5, s6, s7, s8, s9, s10, s11, s12, s13, s14, s15, s16, s17, s18, s19, s20, s21, s22, s23, .val (.int i24), .val (.long j25), .second, s27, s28, s29, s30, s31] [])) _
  refine XS.lload X0.here hx rfl (hb hby at_119) rfl ?_
  show Steps p.tables e below (T0.setTop (mkF m 121 #[.val (.long j0), .second, s2, s3, s4, s5, s6, s7, s8, s9, s10, s11, s12, s13, s14, s15, s16, s17, s18, s19, s20, s21, s22, s23, .val (.int i24), .val (.long j25), .second, s27, s28, s29, s30, s31] [(.long j25)])) _
  refine XS.lloadN X0.here hx rfl (hb hby at_121) rfl ?_
  show Steps p.tables e below (T0.setTop (mkF m 122 #[.val (.long j0), .second, s2, s3, s4, s5, s6, s7, s8, s9, s10, s11, s12, s13, s14, s15, s16, s17, s18, s19, s20, s21, s22, s23, .val (.int i24), .val (.long j25), .second, s27, s28, s29, s30, s31] [(.long j0), (.long j25)])) _
  refine XS.lcmp X0.here hx rfl (hb hby at_122) rfl ?_
  show Steps p.tables e below (T0.setTop (mkF m 123 #[.val (.long j0), .second, s2, s3, s4, s5, s6, s7, s8, s9, s10, s11, s12, s13, s14, s15, s16, s17, s18, s19, s20, s21, s22, s23, .val (.int i24), .val (.long j25), .second, s27, s28, s29, s30, s31] [(.int (lcmpW j25 j0))])) _
  refine XS.ifYes X0.here hx rfl (pc0 := 123) (pc' := 130) rfl (hb hby at_123) rfl ((if0 _ _).trans (flt hc123).2.1) (by decide) (by decide) ?_
  show Steps p.tables e below (T0.setTop (mkF m 130 #[.val (.long j0), .second, s2, s3, s4, s5, s6, s7, s8, s9, s10, s11, s12, s13, s14, s15, s16, s17, s18, s19, s20, s21, s22, s23, .val (.int i24), .val (.long j25), .second, s27, s28, s29, s30, s31] [])) _
  refine XS.iconst X0.here hx rfl (hb hby at_130) ?_
  show Steps p.tables e below (T0.setTop (mkF m 131 #[.val (.long j0), .second, s2, s3, s4, s5, s6, s7, s8, s9, s10, s11, s12, s13, s14, s15, s16, s17, s18, s19, s20, s21, s22, s23, .val (.int i24), .val (.long j25), .second, s27, s28, s29, s30, s31] [(.int (2 : Int32))])) _
  refine XS.iload X0.here hx rfl (hb hby at_131) rfl ?_
  show Steps p.tables e below (T0.setTop (mkF m 133 #[.val (.long j0), .second, s2, s3, s4, s5, s6, s7, s8, s9, s10, s11, s12, s13, s14, s15, s16, s17, s18, s19, s20, s21, s22, s23, .val (.int i24), .val (.long j25), .second, s27, s28, s29, s30, s31] [(.int i24), (.int (2 : Int32))])) _
  refine XS.isub X0.here hx rfl (hb hby at_133) rfl ?_
  exact kt
theorem own_j119 {p : Program} {l : Launch} {e : Env} {R : Room} {s : State} {m : MethodId} {args : Array Value} {below : List Frame} {meth : Method} {c : Code} {T0 : State} {locs : List Loc} {cells slots : Nat} {j0 : Int64} {s2 : Slot} {s3 : Slot} {s4 : Slot} {s5 : Slot} {s6 : Slot} {s7 : Slot} {s8 : Slot} {s9 : Slot} {s10 : Slot} {s11 : Slot} {s12 : Slot} {s13 : Slot} {s14 : Slot} {s15 : Slot} {s16 : Slot} {s17 : Slot} {s18 : Slot} {s19 : Slot} {s20 : Slot} {s21 : Slot} {s22 : Slot} {s23 : Slot} {i24 : Int32} {j25 : Int64} {s27 : Slot} {s28 : Slot} {s29 : Slot} {s30 : Slot} {s31 : Slot}
    (X0 : Stand p l e R s m args below meth c T0 locs cells slots) (hx : p.tables.exec = Jvm.exec) (hby : c.code = code) :
    ∀ target, Steps p.tables e below (T0.setTop (mkF m 134 #[.val (.long j0), .second, s2, s3, s4, s5, s6, s7, s8, s9, s10, s11, s12, s13, s14, s15, s16, s17, s18, s19, s20, s21, s22, s23, .val (.int i24), .val (.long j25), .second, s27, s28, s29, s30, s31] [(.int (if lcmpW j25 j0 < (0 : Int32) then (0 : Int32) else ((2 : Int32) - i24)))])) target → Steps p.tables e below (T0.setTop (mkF m 119 #[.val (.long j0), .second, s2, s3, s4, s5, s6, s7, s8, s9, s10, s11, s12, s13, s14, s15, s16, s17, s18, s19, s20, s21, s22, s23, .val (.int i24), .val (.long j25), .second, s27, s28, s29, s30, s31] [])) target := by
  intro target kt
  by_cases h : lcmpW j25 j0 < (0 : Int32)
  · rw [if_pos h] at kt; exact own_j119_y X0 hx hby h target kt
  · rw [if_neg h] at kt; exact own_j119_n X0 hx hby h target kt
set_option maxRecDepth 65536 in
set_option maxHeartbeats 40000000 in
theorem own_j136_y {p : Program} {l : Launch} {e : Env} {R : Room} {s : State} {m : MethodId} {args : Array Value} {below : List Frame} {meth : Method} {c : Code} {T0 : State} {locs : List Loc} {cells slots : Nat} {s0 : Slot} {s1 : Slot} {s2 : Slot} {s3 : Slot} {s4 : Slot} {s5 : Slot} {s6 : Slot} {s7 : Slot} {s8 : Slot} {s9 : Slot} {s10 : Slot} {s11 : Slot} {s12 : Slot} {s13 : Slot} {s14 : Slot} {s15 : Slot} {s16 : Slot} {s17 : Slot} {s18 : Slot} {s19 : Slot} {s20 : Slot} {s21 : Slot} {s22 : Slot} {s23 : Slot} {i24 : Int32} {s25 : Slot} {s26 : Slot} {i27 : Int32} {s28 : Slot} {s29 : Slot} {s30 : Slot} {s31 : Slot}
    (X0 : Stand p l e R s m args below meth c T0 locs cells slots) (hx : p.tables.exec = Jvm.exec) (hby : c.code = code) (hc138 : i27 = (0 : Int32)) :
    ∀ target, Steps p.tables e below (T0.setTop (mkF m 147 #[s0, s1, s2, s3, s4, s5, s6, s7, s8, s9, s10, s11, s12, s13, s14, s15, s16, s17, s18, s19, s20, s21, s22, s23, .val (.int i24), s25, s26, .val (.int i27), s28, s29, s30, s31] [(.int i24)])) target → Steps p.tables e below (T0.setTop (mkF m 136 #[s0, s1, s2, s3, s4, s5, s6, s7, s8, s9, s10, s11, s12, s13, s14, s15, s16, s17, s18, s19, s20, s21, s22, s23, .val (.int i24), s25, s26, .val (.int i27), s28, s29, s30, s31] [])) target := by
  intro target kt
  show Steps p.tables e below (T0.setTop (mkF m 136 #[s0, s1, s2, s3, s4, s5, s6, s7, s8, s9, s10, s11, s12, s13, s14, s15, s16, s17, s18, s19, s20, s21, s22, s23, .val (.int i24), s25, s26, .val (.int i27), s28, s29, s30, s31] [])) _
  refine XS.iload X0.here hx rfl (hb hby at_136) rfl ?_
  show Steps p.tables e below (T0.setTop (mkF m 138 #[s0, s1, s2, s3, s4, s5, s6, s7, s8, s9, s10, s11, s12, s13, s14, s15, s16, s17, s18, s19, s20, s21, s22, s23, .val (.int i24), s25, s26, .val (.int i27), s28, s29, s30, s31] [(.int i27)])) _
  refine XS.ifYes X0.here hx rfl (pc0 := 138) (pc' := 145) rfl (hb hby at_138) rfl ((if0 _ _).trans (teq hc138).1) (by decide) (by decide) ?_
  show Steps p.tables e below (T0.setTop (mkF m 145 #[s0, s1, s2, s3, s4, s5, s6, s7, s8, s9, s10, s11, s12, s13, s14, s15, s16, s17, s18, s19, s20, s21, s22, s23, .val (.int i24), s25, s26, .val (.int i27), s28, s29, s30, s31] [])) _
  refine XS.iload X0.here hx rfl (hb hby at_145) rfl ?_
  exact kt
set_option maxRecDepth 65536 in
set_option maxHeartbeats 40000000 in
theorem own_j136_n {p : Program} {l : Launch} {e : Env} {R : Room} {s : State} {m : MethodId} {args : Array Value} {below : List Frame} {meth : Method} {c : Code} {T0 : State} {locs : List Loc} {cells slots : Nat} {s0 : Slot} {s1 : Slot} {s2 : Slot} {s3 : Slot} {s4 : Slot} {s5 : Slot} {s6 : Slot} {s7 : Slot} {s8 : Slot} {s9 : Slot} {s10 : Slot} {s11 : Slot} {s12 : Slot} {s13 : Slot} {s14 : Slot} {s15 : Slot} {s16 : Slot} {s17 : Slot} {s18 : Slot} {s19 : Slot} {s20 : Slot} {s21 : Slot} {s22 : Slot} {s23 : Slot} {s24 : Slot} {s25 : Slot} {s26 : Slot} {i27 : Int32} {s28 : Slot} {s29 : Slot} {s30 : Slot} {s31 : Slot}
    (X0 : Stand p l e R s m args below meth c T0 locs cells slots) (hx : p.tables.exec = Jvm.exec) (hby : c.code = code) (hc138 : ¬ (i27 = (0 : Int32))) :
    ∀ target, Steps p.tables e below (T0.setTop (mkF m 147 #[s0, s1, s2, s3, s4, s5, s6, s7, s8, s9, s10, s11, s12, s13, s14, s15, s16, s17, s18, s19, s20, s21, s22, s23, s24, s25, s26, .val (.int i27), s28, s29, s30, s31] [(.int (2 : Int32))])) target → Steps p.tables e below (T0.setTop (mkF m 136 #[s0, s1, s2, s3, s4, s5, s6, s7, s8, s9, s10, s11, s12, s13, s14, s15, s16, s17, s18, s19, s20, s21, s22, s23, s24, s25, s26, .val (.int i27), s28, s29, s30, s31] [])) target := by
  intro target kt
  show Steps p.tables e below (T0.setTop (mkF m 136 #[s0, s1, s2, s3, s4, s5, s6, s7, s8, s9, s10, s11, s12, s13, s14, s15, s16, s17, s18, s19, s20, s21, s22, s23, s24, s25, s26, .val (.int i27), s28, s29, s30, s31] [])) _
  refine XS.iload X0.here hx rfl (hb hby at_136) rfl ?_
  show Steps p.tables e below (T0.setTop (mkF m 138 #[s0, s1, s2, s3, s4, s5, s6, s7, s8, s9, s10, s11, s12, s13, s14, s15, s16, s17, s18, s19, s20, s21, s22, s23, s24, s25, s26, .val (.int i27), s28, s29, s30, s31] [(.int i27)])) _
  refine XS.ifNo X0.here hx rfl (hb hby at_138) rfl ((if0 _ _).trans (feq hc138).1) ?_
  show Steps p.tables e below (T0.setTop (mkF m 141 #[s0, s1, s2, s3, s4, s5, s6, s7, s8, s9, s10, s11, s12, s13, s14, s15, s16, s17, s18, s19, s20, s21, s22, s23, s24, s25, s26, .val (.int i27), s28, s29, s30, s31] [])) _
  refine XS.iconst X0.here hx rfl (hb hby at_141) ?_
  show Steps p.tables e below (T0.setTop (mkF m 142 #[s0, s1, s2, s3, s4, s5, s6, s7, s8, s9, s10, s11, s12, s13, s14, s15, s16, s17, s18, s19, s20, s21, s22, s23, s24, s25, s26, .val (.int i27), s28, s29, s30, s31] [(.int (2 : Int32))])) _
  refine XS.goto X0.here hx rfl (pc0 := 142) (pc' := 147) rfl (hb hby at_142) (by decide) (by decide) ?_
  exact kt
theorem own_j136 {p : Program} {l : Launch} {e : Env} {R : Room} {s : State} {m : MethodId} {args : Array Value} {below : List Frame} {meth : Method} {c : Code} {T0 : State} {locs : List Loc} {cells slots : Nat} {s0 : Slot} {s1 : Slot} {s2 : Slot} {s3 : Slot} {s4 : Slot} {s5 : Slot} {s6 : Slot} {s7 : Slot} {s8 : Slot} {s9 : Slot} {s10 : Slot} {s11 : Slot} {s12 : Slot} {s13 : Slot} {s14 : Slot} {s15 : Slot} {s16 : Slot} {s17 : Slot} {s18 : Slot} {s19 : Slot} {s20 : Slot} {s21 : Slot} {s22 : Slot} {s23 : Slot} {i24 : Int32} {s25 : Slot} {s26 : Slot} {i27 : Int32} {s28 : Slot} {s29 : Slot} {s30 : Slot} {s31 : Slot}
    (X0 : Stand p l e R s m args below meth c T0 locs cells slots) (hx : p.tables.exec = Jvm.exec) (hby : c.code = code) :
    ∀ target, Steps p.tables e below (T0.setTop (mkF m 147 #[s0, s1, s2, s3, s4, s5, s6, s7, s8, s9, s10, s11, s12, s13, s14, s15, s16, s17, s18, s19, s20, s21, s22, s23, .val (.int i24), s25, s26, .val (.int i27), s28, s29, s30, s31] [(.int (if i27 = (0 : Int32) then i24 else (2 : Int32)))])) target → Steps p.tables e below (T0.setTop (mkF m 136 #[s0, s1, s2, s3, s4, s5, s6, s7, s8, s9, s10, s11, s12, s13, s14, s15, s16, s17, s18, s19, s20, s21, s22, s23, .val (.int i24), s25, s26, .val (.int i27), s28, s29, s30, s31] [])) target := by
  intro target kt
  by_cases h : i27 = (0 : Int32)
  · rw [if_pos h] at kt; exact own_j136_y X0 hx hby h target kt
  · rw [if_neg h] at kt; exact own_j136_n X0 hx hby h target kt
set_option maxRecDepth 65536 in
set_option maxHeartbeats 40000000 in
theorem own_j149_f {p : Program} {l : Launch} {e : Env} {R : Room} {s : State} {m : MethodId} {args : Array Value} {below : List Frame} {meth : Method} {c : Code} {T0 : State} {locs : List Loc} {cells slots : Nat} {s0 : Slot} {s1 : Slot} {s2 : Slot} {s3 : Slot} {s4 : Slot} {s5 : Slot} {s6 : Slot} {s7 : Slot} {j8 : Int64} {s10 : Slot} {s11 : Slot} {s12 : Slot} {s13 : Slot} {s14 : Slot} {s15 : Slot} {s16 : Slot} {s17 : Slot} {s18 : Slot} {s19 : Slot} {s20 : Slot} {s21 : Slot} {s22 : Slot} {s23 : Slot} {s24 : Slot} {s25 : Slot} {s26 : Slot} {s27 : Slot} {i28 : Int32} {s31 : Slot}
    (X0 : Stand p l e R s m args below meth c T0 locs cells slots) (hx : p.tables.exec = Jvm.exec) (hby : c.code = code) (hc152 : i28 = (2 : Int32)) :
    ∀ target, Steps p.tables e below (T0.setTop (mkF m 188 #[s0, s1, s2, s3, s4, s5, s6, s7, .val (.long j8), .second, s10, s11, s12, s13, s14, s15, s16, s17, s18, s19, s20, s21, s22, s23, s24, s25, s26, s27, .val (.int i28), .val (.long j8), .second, s31] [])) target → Steps p.tables e below (T0.setTop (mkF m 149 #[s0, s1, s2, s3, s4, s5, s6, s7, .val (.long j8), .second, s10, s11, s12, s13, s14, s15, s16, s17, s18, s19, s20, s21, s22, s23, s24, s25, s26, s27, .val (.int i28), .unset, .unset, s31] [])) target := by
  intro target kt
  show Steps p.tables e below (T0.setTop (mkF m 149 #[s0, s1, s2, s3, s4, s5, s6, s7, .val (.long j8), .second, s10, s11, s12, s13, s14, s15, s16, s17, s18, s19, s20, s21, s22, s23, s24, s25, s26, s27, .val (.int i28), .unset, .unset, s31] [])) _
  refine XS.iload X0.here hx rfl (hb hby at_149) rfl ?_
  show Steps p.tables e below (T0.setTop (mkF m 151 #[s0, s1, s2, s3, s4, s5, s6, s7, .val (.long j8), .second, s10, s11, s12, s13, s14, s15, s16, s17, s18, s19, s20, s21, s22, s23, s24, s25, s26, s27, .val (.int i28), .unset, .unset, s31] [(.int i28)])) _
  refine XS.iconst X0.here hx rfl (hb hby at_151) ?_
  show Steps p.tables e below (T0.setTop (mkF m 152 #[s0, s1, s2, s3, s4, s5, s6, s7, .val (.long j8), .second, s10, s11, s12, s13, s14, s15, s16, s17, s18, s19, s20, s21, s22, s23, s24, s25, s26, s27, .val (.int i28), .unset, .unset, s31] [(.int (2 : Int32)), (.int i28)])) _
  refine XS.icmpNo X0.here hx rfl (hb hby at_152) rfl (teq hc152).2 ?_
  show Steps p.tables e below (T0.setTop (mkF m 155 #[s0, s1, s2, s3, s4, s5, s6, s7, .val (.long j8), .second, s10, s11, s12, s13, s14, s15, s16, s17, s18, s19, s20, s21, s22, s23, s24, s25, s26, s27, .val (.int i28), .unset, .unset, s31] [])) _
  refine XS.lload X0.here hx rfl (hb hby at_155) rfl ?_
  show Steps p.tables e below (T0.setTop (mkF m 157 #[s0, s1, s2, s3, s4, s5, s6, s7, .val (.long j8), .second, s10, s11, s12, s13, s14, s15, s16, s17, s18, s19, s20, s21, s22, s23, s24, s25, s26, s27, .val (.int i28), .unset, .unset, s31] [(.long j8)])) _
  refine XS.lstore X0.here hx rfl (hb hby at_157) rfl (l' := #[s0, s1, s2, s3, s4, s5, s6, s7, .val (.long j8), .second, s10, s11, s12, s13, s14, s15, s16, s17, s18, s19, s20, s21, s22, s23, s24, s25, s26, s27, .val (.int i28), .val (.long j8), .second, s31]) rfl ?_
  show Steps p.tables e below (T0.setTop (mkF m 159 #[s0, s1, s2, s3, s4, s5, s6, s7, .val (.long j8), .second, s10, s11, s12, s13, s14, s15, s16, s17, s18, s19, s20, s21, s22, s23, s24, s25, s26, s27, .val (.int i28), .val (.long j8), .second, s31] [])) _
  refine XS.goto X0.here hx rfl (pc0 := 159) (pc' := 188) rfl (hb hby at_159) (by decide) (by decide) ?_
  exact kt
set_option maxRecDepth 65536 in
set_option maxHeartbeats 40000000 in
theorem own_j149_tf {p : Program} {l : Launch} {e : Env} {R : Room} {s : State} {m : MethodId} {args : Array Value} {below : List Frame} {meth : Method} {c : Code} {T0 : State} {locs : List Loc} {cells slots : Nat} {s0 : Slot} {s1 : Slot} {s2 : Slot} {s3 : Slot} {s4 : Slot} {s5 : Slot} {j6 : Int64} {j8 : Int64} {s10 : Slot} {s11 : Slot} {s12 : Slot} {s13 : Slot} {s14 : Slot} {s15 : Slot} {s16 : Slot} {s17 : Slot} {s18 : Slot} {s19 : Slot} {s20 : Slot} {s21 : Slot} {s22 : Slot} {s23 : Slot} {s24 : Slot} {s25 : Slot} {s26 : Slot} {s27 : Slot} {i28 : Int32} {s31 : Slot}
    (X0 : Stand p l e R s m args below meth c T0 locs cells slots) (hx : p.tables.exec = Jvm.exec) (hby : c.code = code) (hc152 : ¬ (i28 = (2 : Int32))) (hc165 : i28 = (1 : Int32)) :
    ∀ target, Steps p.tables e below (T0.setTop (mkF m 188 #[s0, s1, s2, s3, s4, s5, .val (.long j6), .second, .val (.long j8), .second, s10, s11, s12, s13, s14, s15, s16, s17, s18, s19, s20, s21, s22, s23, s24, s25, s26, s27, .val (.int i28), .val (.long (j6 + j8)), .second, s31] [])) target → Steps p.tables e below (T0.setTop (mkF m 149 #[s0, s1, s2, s3, s4, s5, .val (.long j6), .second, .val (.long j8), .second, s10, s11, s12, s13, s14, s15, s16, s17, s18, s19, s20, s21, s22, s23, s24, s25, s26, s27, .val (.int i28), .unset, .unset, s31] [])) target := by
  intro target kt
  show Steps p.tables e below (T0.setTop (mkF m 149 #[s0, s1, s2, s3, s4, s5, .val (.long j6), .second, .val (.long j8), .second, s10, s11, s12, s13, s14, s15, s16, s17, s18, s19, s20, s21, s22, s23, s24, s25, s26, s27, .val (.int i28), .unset, .unset, s31] [])) _
  refine XS.iload X0.here hx rfl (hb hby at_149) rfl ?_
  show Steps p.tables e below (T0.setTop (mkF m 151 #[s0, s1, s2, s3, s4, s5, .val (.long j6), .second, .val (.long j8), .second, s10, s11, s12, s13, s14, s15, s16, s17, s18, s19, s20, s21, s22, s23, s24, s25, s26, s27, .val (.int i28), .unset, .unset, s31] [(.int i28)])) _
  refine XS.iconst X0.here hx rfl (hb hby at_151) ?_
  show Steps p.tables e below (T0.setTop (mkF m 152 #[s0, s1, s2, s3, s4, s5, .val (.long j6), .second, .val (.long j8), .second, s10, s11, s12, s13, s14, s15, s16, s17, s18, s19, s20, s21, s22, s23, s24, s25, s26, s27, .val (.int i28), .unset, .unset, s31] [(.int (2 : Int32)), (.int i28)])) _
  refine XS.icmpYes X0.here hx rfl (pc0 := 152) (pc' := 162) rfl (hb hby at_152) rfl (feq hc152).2 (by decide) (by decide) ?_
  show Steps p.tables e below (T0.setTop (mkF m 162 #[s0, s1, s2, s3, s4, s5, .val (.long j6), .second, .val (.long j8), .second, s10, s11, s12, s13, s14, s15, s16, s17, s18, s19, s20, s21, s22, s23, s24, s25, s26, s27, .val (.int i28), .unset, .unset, s31] [])) _
  refine XS.iload X0.here hx rfl (hb hby at_162) rfl ?_
  show Steps p.tables e below (T0.setTop (mkF m 164 #[s0, s1, s2, s3, s4, s5, .val (.long j6), .second, .val (.long j8), .second, s10, s11, s12, s13, s14, s15, s16, s17, s18, s19, s20, s21, s22, s23, s24, s25, s26, s27, .val (.int i28), .unset, .unset, s31] [(.int i28)])) _
  refine XS.iconst X0.here hx rfl (hb hby at_164) ?_
  show Steps p.tables e below (T0.setTop (mkF m 165 #[s0, s1, s2, s3, s4, s5, .val (.long j6), .second, .val (.long j8), .second, s10, s11, s12, s13, s14, s15, s16, s17, s18, s19, s20, s21, s22, s23, s24, s25, s26, s27, .val (.int i28), .unset, .unset, s31] [(.int (1 : Int32)), (.int i28)])) _
  refine XS.icmpNo X0.here hx rfl (hb hby at_165) rfl (teq hc165).2 ?_
  show Steps p.tables e below (T0.setTop (mkF m 168 #[s0, s1, s2, s3, s4, s5, .val (.long j6), .second, .val (.long j8), .second, s10, s11, s12, s13, s14, s15, s16, s17, s18, s19, s20, s21, s22, s23, s24, s25, s26, s27, .val (.int i28), .unset, .unset, s31] [])) _
  refine XS.lload X0.here hx rfl (hb hby at_168) rfl ?_
  show Steps p.tables e below (T0.setTop (mkF m 170 #[s0, s1, s2, s3, s4, s5, .val (.long j6), .second, .val (.long j8), .second, s10, s11, s12, s13, s14, s15, s16, s17, s18, s19, s20, s21, s22, s23, s24, s25, s26, s27, .val (.int i28), .unset, .unset, s31] [(.long j6)])) _
  refine XS.lload X0.here hx rfl (hb hby at_170) rfl ?_
  show Steps p.tables e below (T0.setTop (mkF m 172 #[s0, s1, s2, s3, s4, s5, .val (.long j6), .second, .val (.long j8), .second, s10, s11, s12, s13, s14, s15, s16, s17, s18, s19, s20, s21, s22, s23, s24, s25, s26, s27, .val (.int i28), .unset, .unset, s31] [(.long j8), (.long j6)])) _
  refine XS.ladd X0.here hx rfl (hb hby at_172) rfl ?_
  show Steps p.tables e below (T0.setTop (mkF m 173 #[s0, s1, s2, s3, s4, s5, .val (.long j6), .second, .val (.long j8), .second, s10, s11, s12, s13, s14, s15, s16, s17, s18, s19, s20, s21, s22, s23, s24, s25, s26, s27, .val (.int i28), .unset, .unset, s31] [(.long (j6 + j8))])) _
  refine XS.lstore X0.here hx rfl (hb hby at_173) rfl (l' := #[s0, s1, s2, s3, s4, s5, .val (.long j6), .second, .val (.long j8), .second, s10, s11, s12, s13, s14, s15, s16, s17, s18, s19, s20, s21, s22, s23, s24, s25, s26, s27, .val (.int i28), .val (.long (j6 + j8)), .second, s31]) rfl ?_
  show Steps p.tables e below (T0.setTop (mkF m 175 #[s0, s1, s2, s3, s4, s5, .val (.long j6), .second, .val (.long j8), .second, s10, s11, s12, s13, s14, s15, s16, s17, s18, s19, s20, s21, s22, s23, s24, s25, s26, s27, .val (.int i28), .val (.long (j6 + j8)), .second, s31] [])) _
  refine XS.goto X0.here hx rfl (pc0 := 175) (pc' := 188) rfl (hb hby at_175) (by decide) (by decide) ?_
  exact kt
set_option maxRecDepth 65536 in
set_option maxHeartbeats 40000000 in
theorem own_j149_tt {p : Program} {l : Launch} {e : Env} {R : Room} {s : State} {m : MethodId} {args : Array Value} {below : List Frame} {meth : Method} {c : Code} {T0 : State} {locs : List Loc} {cells slots : Nat} {s0 : Slot} {s1 : Slot} {s2 : Slot} {s3 : Slot} {j4 : Int64} {j6 : Int64} {j8 : Int64} {s10 : Slot} {s11 : Slot} {s12 : Slot} {s13 : Slot} {s14 : Slot} {s15 : Slot} {s16 : Slot} {s17 : Slot} {s18 : Slot} {s19 : Slot} {s20 : Slot} {s21 : Slot} {s22 : Slot} {s23 : Slot} {s24 : Slot} {s25 : Slot} {s26 : Slot} {s27 : Slot} {i28 : Int32} {s31 : Slot}
    (X0 : Stand p l e R s m args below meth c T0 locs cells slots) (hx : p.tables.exec = Jvm.exec) (hby : c.code = code) (hc152 : ¬ (i28 = (2 : Int32))) (hc165 : ¬ (i28 = (1 : Int32))) :
    ∀ target, Steps p.tables e below (T0.setTop (mkF m 188 #[s0, s1, s2, s3, .val (.long j4), .second, .val (.long j6), .second, .val (.long j8), .second, s10, s11, s12, s13, s14, s15, s16, s17, s18, s19, s20, s21, s22, s23, s24, s25, s26, s27, .val (.int i28), .val (.long ((j4 + j6) + j8)), .second, s31] [])) target → Steps p.tables e below (T0.setTop (mkF m 149 #[s0, s1, s2, s3, .val (.long j4), .second, .val (.long j6), .second, .val (.long j8), .second, s10, s11, s12, s13, s14, s15, s16, s17, s18, s19, s20, s21, s22, s23, s24, s25, s26, s27, .val (.int i28), .unset, .unset, s31] [])) target := by
  intro target kt
  show Steps p.tables e below (T0.setTop (mkF m 149 #[s0, s1, s2, s3, .val (.long j4), .second, .val (.long j6), .second, .val (.long j8), .second, s10, s11, s12, s13, s14, s15, s16, s17, s18, s19, s20, s21, s22, s23, s24, s25, s26, s27, .val (.int i28), .unset, .unset, s31] [])) _
  refine XS.iload X0.here hx rfl (hb hby at_149) rfl ?_
  show Steps p.tables e below (T0.setTop (mkF m 151 #[s0, s1, s2, s3, .val (.long j4), .second, .val (.long j6), .second, .val (.long j8), .second, s10, s11, s12, s13, s14, s15, s16, s17, s18, s19, s20, s21, s22, s23, s24, s25, s26, s27, .val (.int i28), .unset, .unset, s31] [(.int i28)])) _
  refine XS.iconst X0.here hx rfl (hb hby at_151) ?_
  show Steps p.tables e below (T0.setTop (mkF m 152 #[s0, s1, s2, s3, .val (.long j4), .second, .val (.long j6), .second, .val (.long j8), .second, s10, s11, s12, s13, s14, s15, s16, s17, s18, s19, s20, s21, s22, s23, s24, s25, s26, s27, .val (.int i28), .unset, .unset, s31] [(.int (2 : Int32)), (.int i28)])) _
  refine XS.icmpYes X0.here hx rfl (pc0 := 152) (pc' := 162) rfl (hb hby at_152) rfl (feq hc152).2 (by decide) (by decide) ?_
  show Steps p.tables e below (T0.setTop (mkF m 162 #[s0, s1, s2, s3, .val (.long j4), .second, .val (.long j6), .second, .val (.long j8), .second, s10, s11, s12, s13, s14, s15, s16, s17, s18, s19, s20, s21, s22, s23, s24, s25, s26, s27, .val (.int i28), .unset, .unset, s31] [])) _
  refine XS.iload X0.here hx rfl (hb hby at_162) rfl ?_
  show Steps p.tables e below (T0.setTop (mkF m 164 #[s0, s1, s2, s3, .val (.long j4), .second, .val (.long j6), .second, .val (.long j8), .second, s10, s11, s12, s13, s14, s15, s16, s17, s18, s19, s20, s21, s22, s23, s24, s25, s26, s27, .val (.int i28), .unset, .unset, s31] [(.int i28)])) _
  refine XS.iconst X0.here hx rfl (hb hby at_164) ?_
  show Steps p.tables e below (T0.setTop (mkF m 165 #[s0, s1, s2, s3, .val (.long j4), .second, .val (.long j6), .second, .val (.long j8), .second, s10, s11, s12, s13, s14, s15, s16, s17, s18, s19, s20, s21, s22, s23, s24, s25, s26, s27, .val (.int i28), .unset, .unset, s31] [(.int (1 : Int32)), (.int i28)])) _
  refine XS.icmpYes X0.here hx rfl (pc0 := 165) (pc' := 178) rfl (hb hby at_165) rfl (feq hc165).2 (by decide) (by decide) ?_
  show Steps p.tables e below (T0.setTop (mkF m 178 #[s0, s1, s2, s3, .val (.long j4), .second, .val (.long j6), .second, .val (.long j8), .second, s10, s11, s12, s13, s14, s15, s16, s17, s18, s19, s20, s21, s22, s23, s24, s25, s26, s27, .val (.int i28), .unset, .unset, s31] [])) _
  refine XS.lload X0.here hx rfl (hb hby at_178) rfl ?_
  show Steps p.tables e below (T0.setTop (mkF m 180 #[s0, s1, s2, s3, .val (.long j4), .second, .val (.long j6), .second, .val (.long j8), .second, s10, s11, s12, s13, s14, s15, s16, s17, s18, s19, s20, s21, s22, s23, s24, s25, s26, s27, .val (.int i28), .unset, .unset, s31] [(.long j4)])) _
  refine XS.lload X0.here hx rfl (hb hby at_180) rfl ?_
  show Steps p.tables e below (T0.setTop (mkF m 182 #[s0, s1, s2, s3, .val (.long j4), .second, .val (.long j6), .second, .val (.long j8), .second, s10, s11, s12, s13, s14, s15, s16, s17, s18, s19, s20, s21, s22, s23, s24, s25, s26, s27, .val (.int i28), .unset, .unset, s31] [(.long j6), (.long j4)])) _
  refine XS.ladd X0.here hx rfl (hb hby at_182) rfl ?_
  show Steps p.tables e below (T0.setTop (mkF m 183 #[s0, s1, s2, s3, .val (.long j4), .second, .val (.long j6), .second, .val (.long j8), .second, s10, s11, s12, s13, s14, s15, s16, s17, s18, s19, s20, s21, s22, s23, s24, s25, s26, s27, .val (.int i28), .unset, .unset, s31] [(.long (j4 + j6))])) _
  refine XS.lload X0.here hx rfl (hb hby at_183) rfl ?_
  show Steps p.tables e below (T0.setTop (mkF m 185 #[s0, s1, s2, s3, .val (.long j4), .second, .val (.long j6), .second, .val (.long j8), .second, s10, s11, s12, s13, s14, s15, s16, s17, s18, s19, s20, s21, s22, s23, s24, s25, s26, s27, .val (.int i28), .unset, .unset, s31] [(.long j8), (.long (j4 + j6))])) _
  refine XS.ladd X0.here hx rfl (hb hby at_185) rfl ?_
  show Steps p.tables e below (T0.setTop (mkF m 186 #[s0, s1, s2, s3, .val (.long j4), .second, .val (.long j6), .second, .val (.long j8), .second, s10, s11, s12, s13, s14, s15, s16, s17, s18, s19, s20, s21, s22, s23, s24, s25, s26, s27, .val (.int i28), .unset, .unset, s31] [(.long ((j4 + j6) + j8))])) _
  refine XS.lstore X0.here hx rfl (hb hby at_186) rfl (l' := #[s0, s1, s2, s3, .val (.long j4), .second, .val (.long j6), .second, .val (.long j8), .second, s10, s11, s12, s13, s14, s15, s16, s17, s18, s19, s20, s21, s22, s23, s24, s25, s26, s27, .val (.int i28), .val (.long ((j4 + j6) + j8)), .second, s31]) rfl ?_
  exact kt
theorem own_j149 {p : Program} {l : Launch} {e : Env} {R : Room} {s : State} {m : MethodId} {args : Array Value} {below : List Frame} {meth : Method} {c : Code} {T0 : State} {locs : List Loc} {cells slots : Nat} {s0 : Slot} {s1 : Slot} {s2 : Slot} {s3 : Slot} {j4 : Int64} {j6 : Int64} {j8 : Int64} {s10 : Slot} {s11 : Slot} {s12 : Slot} {s13 : Slot} {s14 : Slot} {s15 : Slot} {s16 : Slot} {s17 : Slot} {s18 : Slot} {s19 : Slot} {s20 : Slot} {s21 : Slot} {s22 : Slot} {s23 : Slot} {s24 : Slot} {s25 : Slot} {s26 : Slot} {s27 : Slot} {i28 : Int32} {s31 : Slot}
    (X0 : Stand p l e R s m args below meth c T0 locs cells slots) (hx : p.tables.exec = Jvm.exec) (hby : c.code = code) :
    ∀ target, Steps p.tables e below (T0.setTop (mkF m 188 #[s0, s1, s2, s3, .val (.long j4), .second, .val (.long j6), .second, .val (.long j8), .second, s10, s11, s12, s13, s14, s15, s16, s17, s18, s19, s20, s21, s22, s23, s24, s25, s26, s27, .val (.int i28), .val (.long (if i28 = (2 : Int32) then j8 else if i28 = (1 : Int32) then (j6 + j8) else ((j4 + j6) + j8))), .second, s31] [])) target → Steps p.tables e below (T0.setTop (mkF m 149 #[s0, s1, s2, s3, .val (.long j4), .second, .val (.long j6), .second, .val (.long j8), .second, s10, s11, s12, s13, s14, s15, s16, s17, s18, s19, s20, s21, s22, s23, s24, s25, s26, s27, .val (.int i28), .unset, .unset, s31] [])) target := by
  intro target kt
  by_cases h : i28 = (2 : Int32)
  · rw [if_pos h] at kt; exact own_j149_f X0 hx hby h target kt
  · rw [if_neg h] at kt
    by_cases h1 : i28 = (1 : Int32)
    · rw [if_pos h1] at kt; exact own_j149_tf X0 hx hby h h1 target kt
    · rw [if_neg h1] at kt; exact own_j149_tt X0 hx hby h h1 target kt
set_option maxRecDepth 65536 in
set_option maxHeartbeats 40000000 in
theorem own_j188_y {p : Program} {l : Launch} {e : Env} {R : Room} {s : State} {m : MethodId} {args : Array Value} {below : List Frame} {meth : Method} {c : Code} {T0 : State} {locs : List Loc} {cells slots : Nat} {j0 : Int64} {s2 : Slot} {s3 : Slot} {s4 : Slot} {s5 : Slot} {s6 : Slot} {s7 : Slot} {s8 : Slot} {s9 : Slot} {s10 : Slot} {s11 : Slot} {s12 : Slot} {s13 : Slot} {s14 : Slot} {s15 : Slot} {s16 : Slot} {s17 : Slot} {s18 : Slot} {s19 : Slot} {s20 : Slot} {s21 : Slot} {s22 : Slot} {s23 : Slot} {s24 : Slot} {s25 : Slot} {s26 : Slot} {s27 : Slot} {s28 : Slot} {j29 : Int64} {s31 : Slot}
    (X0 : Stand p l e R s m args below meth c T0 locs cells slots) (hx : p.tables.exec = Jvm.exec) (hby : c.code = code) (hc192 : (lcmpW j29 j0) < (0 : Int32)) :
    ∀ target, Steps p.tables e below (T0.setTop (mkF m 203 #[.val (.long j0), .second, s2, s3, s4, s5, s6, s7, s8, s9, s10, s11, s12, s13, s14, s15, s16, s17, s18, s19, s20, s21, s22, s23, s24, s25, s26, s27, s28, .val (.long j29), .second, s31] [(.int (0 : Int32))])) target → Steps p.tables e below (T0.setTop (mkF m 188 #[.val (.long j0), .second, s2, s3, s4, s5, s6, s7, s8, s9, s10, s11, s12, s13, s14, s15, s16, s17, s18, s19, s20, s21, s22, s23, s24, s25, s26, s27, s28, .val (.long j29), .second, s31] [])) target := by
  intro target kt
  show Steps p.tables e below (T0.setTop (mkF m 188 #[.val (.long j0), .second, s2, s3, s4, s5, s6, s7, s8, s9, s10, s11, s12, s13, s14, s15, s16, s17, s18, s19, s20, s21, s22, s23, s24, s25, s26, s27, s28, .val (.long j29), .second, s31] [])) _
  refine XS.lload X0.here hx rfl (hb hby at_188) rfl ?_
  show Steps p.tables e below (T0.setTop (mkF m 190 #[.val (.long j0), .second, s2, s3, s4, s5, s6, s7, s8, s9, s10, s11, s12, s13, s14, s15, s16, s17, s18, s19, s20, s21, s22, s23, s24, s25, s26, s27, s28, .val (.long j29), .second, s31] [(.long j29)])) _
  refine XS.lloadN X0.here hx rfl (hb hby at_190) rfl ?_
  show Steps p.tables e below (T0.setTop (mkF m 191 #[.val (.long j0), .second, s2, s3, s4, s5, s6, s7, s8, s9, s10, s11, s12, s13, s14, s15, s16, s17, s18, s19, s20, s21, s22, s23, s24, s25, s26, s27, s28, .val (.long j29), .second, s31] [(.long j0), (.long j29)])) _
  refine XS.lcmp X0.here hx rfl (hb hby at_191) rfl ?_
  show Steps p.tables e below (T0.setTop (mkF m 192 #[.val (.long j0), .second, s2, s3, s4, s5, s6, s7, s8, s9, s10, s11, s12, s13, s14, s15, s16, s17, s18, s19, s20, s21, s22, s23, s24, s25, s26, s27, s28, .val (.long j29), .second, s31] [(.int (lcmpW j29 j0))])) _
  refine XS.ifNo X0.here hx rfl (hb hby at_192) rfl ((if0 _ _).trans (tlt hc192).2.1) ?_
  show Steps p.tables e below (T0.setTop (mkF m 195 #[.val (.long j0), .second, s2, s3, s4, s5, s6, s7, s8, s9, s10, s11, s12, s13, s14, s15, s16, s17, s18, s19, s20, s21, s22, s23, s24, s25, s26, s27, s28, .val (.long j29), .second, s31] [])) _
  refine XS.iconst X0.here hx rfl (hb hby at_195) ?_
  show Steps p.tables e below (T0.setTop (mkF m 196 #[.val (.long j0), .second, s2, s3, s4, s5, s6, s7, s8, s9, s10, s11, s12, s13, s14, s15, s16, s17, s18, s19, s20, s21, s22, s23, s24, s25, s26, s27, s28, .val (.long j29), .second, s31] [(.int (0 : Int32))])) _
  refine XS.goto X0.here hx rfl (pc0 := 196) (pc' := 203) rfl (hb hby at_196) (by decide) (by decide) ?_
  exact kt
set_option maxRecDepth 65536 in
set_option maxHeartbeats 40000000 in
theorem own_j188_n {p : Program} {l : Launch} {e : Env} {R : Room} {s : State} {m : MethodId} {args : Array Value} {below : List Frame} {meth : Method} {c : Code} {T0 : State} {locs : List Loc} {cells slots : Nat} {j0 : Int64} {s2 : Slot} {s3 : Slot} {s4 : Slot} {s5 : Slot} {s6 : Slot} {s7 : Slot} {s8 : Slot} {s9 : Slot} {s10 : Slot} {s11 : Slot} {s12 : Slot} {s13 : Slot} {s14 : Slot} {s15 : Slot} {s16 : Slot} {s17 : Slot} {s18 : Slot} {s19 : Slot} {s20 : Slot} {s21 : Slot} {s22 : Slot} {s23 : Slot} {s24 : Slot} {s25 : Slot} {s26 : Slot} {s27 : Slot} {i28 : Int32} {j29 : Int64} {s31 : Slot}
    (X0 : Stand p l e R s m args below meth c T0 locs cells slots) (hx : p.tables.exec = Jvm.exec) (hby : c.code = code) (hc192 : ¬ ((lcmpW j29 j0) < (0 : Int32))) :
    ∀ target, Steps p.tables e below (T0.setTop (mkF m 203 #[.val (.long j0), .second, s2, s3, s4, s5, s6, s7, s8, s9, s10, s11, s12, s13, s14, s15, s16, s17, s18, s19, s20, s21, s22, s23, s24, s25, s26, s27, .val (.int i28), .val (.long j29), .second, s31] [(.int ((3 : Int32) - i28))])) target → Steps p.tables e below (T0.setTop (mkF m 188 #[.val (.long j0), .second, s2, s3, s4, s5, s6, s7, s8, s9, s10, s11, s12, s13, s14, s15, s16, s17, s18, s19, s20, s21, s22, s23, s24, s25, s26, s27, .val (.int i28), .val (.long j29), .second, s31] [])) target := by
  intro target kt
  show Steps p.tables e below (T0.setTop (mkF m 188 #[.val (.long j0), .second, s2, s3, s4, s5, s6, s7, s8, s9, s10, s11, s12, s13, s14, s15, s16, s17, s18, s19, s20, s21, s22, s23, s24, s25, s26, s27, .val (.int i28), .val (.long j29), .second, s31] [])) _
  refine XS.lload X0.here hx rfl (hb hby at_188) rfl ?_
  show Steps p.tables e below (T0.setTop (mkF m 190 #[.val (.long j0), .second, s2, s3, s4, s5, s6, s7, s8, s9, s10, s11, s12, s13, s14, s15, s16, s17, s18, s19, s20, s21, s22, s23, s24, s25, s26, s27, .val (.int i28), .val (.long j29), .second, s31] [(.long j29)])) _
  refine XS.lloadN X0.here hx rfl (hb hby at_190) rfl ?_
  show Steps p.tables e below (T0.setTop (mkF m 191 #[.val (.long j0), .second, s2, s3, s4, s5, s6, s7, s8, s9, s10, s11, s12, s13, s14, s15, s16, s17, s18, s19, s20, s21, s22, s23, s24, s25, s26, s27, .val (.int i28), .val (.long j29), .second, s31] [(.long j0), (.long j29)])) _
  refine XS.lcmp X0.here hx rfl (hb hby at_191) rfl ?_
  show Steps p.tables e below (T0.setTop (mkF m 192 #[.val (.long j0), .second, s2, s3, s4, s5, s6, s7, s8, s9, s10, s11, s12, s13, s14, s15, s16, s17, s18, s19, s20, s21, s22, s23, s24, s25, s26, s27, .val (.int i28), .val (.long j29), .second, s31] [(.int (lcmpW j29 j0))])) _
  refine XS.ifYes X0.here hx rfl (pc0 := 192) (pc' := 199) rfl (hb hby at_192) rfl ((if0 _ _).trans (flt hc192).2.1) (by decide) (by decide) ?_
  show Steps p.tables e below (T0.setTop (mkF m 199 #[.val (.long j0), .second, s2, s3, s4, s5, s6, s7, s8, s9, s10, s11, s12, s13, s14, s15, s16, s17, s18, s19, s20, s21, s22, s23, s24, s25, s26, s27, .val (.int i28), .val (.long j29), .second, s31] [])) _
  refine XS.iconst X0.here hx rfl (hb hby at_199) ?_
  show Steps p.tables e below (T0.setTop (mkF m 200 #[.val (.long j0), .second, s2, s3, s4, s5, s6, s7, s8, s9, s10, s11, s12, s13, s14, s15, s16, s17, s18, s19, s20, s21, s22, s23, s24, s25, s26, s27, .val (.int i28), .val (.long j29), .second, s31] [(.int (3 : Int32))])) _
  refine XS.iload X0.here hx rfl (hb hby at_200) rfl ?_
  show Steps p.tables e below (T0.setTop (mkF m 202 #[.val (.long j0), .second, s2, s3, s4, s5, s6, s7, s8, s9, s10, s11, s12, s13, s14, s15, s16, s17, s18, s19, s20, s21, s22, s23, s24, s25, s26, s27, .val (.int i28), .val (.long j29), .second, s31] [(.int i28), (.int (3 : Int32))])) _
  refine XS.isub X0.here hx rfl (hb hby at_202) rfl ?_
  exact kt
theorem own_j188 {p : Program} {l : Launch} {e : Env} {R : Room} {s : State} {m : MethodId} {args : Array Value} {below : List Frame} {meth : Method} {c : Code} {T0 : State} {locs : List Loc} {cells slots : Nat} {j0 : Int64} {s2 : Slot} {s3 : Slot} {s4 : Slot} {s5 : Slot} {s6 : Slot} {s7 : Slot} {s8 : Slot} {s9 : Slot} {s10 : Slot} {s11 : Slot} {s12 : Slot} {s13 : Slot} {s14 : Slot} {s15 : Slot} {s16 : Slot} {s17 : Slot} {s18 : Slot} {s19 : Slot} {s20 : Slot} {s21 : Slot} {s22 : Slot} {s23 : Slot} {s24 : Slot} {s25 : Slot} {s26 : Slot} {s27 : Slot} {i28 : Int32} {j29 : Int64} {s31 : Slot}
    (X0 : Stand p l e R s m args below meth c T0 locs cells slots) (hx : p.tables.exec = Jvm.exec) (hby : c.code = code) :
    ∀ target, Steps p.tables e below (T0.setTop (mkF m 203 #[.val (.long j0), .second, s2, s3, s4, s5, s6, s7, s8, s9, s10, s11, s12, s13, s14, s15, s16, s17, s18, s19, s20, s21, s22, s23, s24, s25, s26, s27, .val (.int i28), .val (.long j29), .second, s31] [(.int (if lcmpW j29 j0 < (0 : Int32) then (0 : Int32) else ((3 : Int32) - i28)))])) target → Steps p.tables e below (T0.setTop (mkF m 188 #[.val (.long j0), .second, s2, s3, s4, s5, s6, s7, s8, s9, s10, s11, s12, s13, s14, s15, s16, s17, s18, s19, s20, s21, s22, s23, s24, s25, s26, s27, .val (.int i28), .val (.long j29), .second, s31] [])) target := by
  intro target kt
  by_cases h : lcmpW j29 j0 < (0 : Int32)
  · rw [if_pos h] at kt; exact own_j188_y X0 hx hby h target kt
  · rw [if_neg h] at kt; exact own_j188_n X0 hx hby h target kt
def own_e1 (q1 q3 : Int64) : Int32 := (if lcmpW q3 q1 < (0 : Int32) then (0 : Int32) else ((1 : Int32) - (0 : Int32)))
def own_l1 (q1 q3 : Int64) : Int32 := (if (own_e1 q1 q3) = (0 : Int32) then (0 : Int32) else (1 : Int32))
def own_el2 (q1 q3 q4 : Int64) : Int64 := (if (own_l1 q1 q3) = (1 : Int32) then q4 else (q3 + q4))
def own_e2 (q1 q3 q4 : Int64) : Int32 := (if lcmpW (own_el2 q1 q3 q4) q1 < (0 : Int32) then (0 : Int32) else ((2 : Int32) - (own_l1 q1 q3)))
def own_l2 (q1 q3 q4 : Int64) : Int32 := (if (own_e2 q1 q3 q4) = (0 : Int32) then (own_l1 q1 q3) else (2 : Int32))
def own_el3 (q1 q3 q4 q5 : Int64) : Int64 := (if (own_l2 q1 q3 q4) = (2 : Int32) then q5 else if (own_l2 q1 q3 q4) = (1 : Int32) then (q4 + q5) else ((q3 + q4) + q5))
def own_e3 (q1 q3 q4 q5 : Int64) : Int32 := (if lcmpW (own_el3 q1 q3 q4 q5) q1 < (0 : Int32) then (0 : Int32) else ((3 : Int32) - (own_l2 q1 q3 q4)))
def own_o1 (i t d1 : Int64) : Int32 := own_co i 0 t (t + d1)
def own_t1 (i t d1 : Int64) : Int64 := own_ct i t (t + d1)
def own_r1 (i t d1 : Int64) : Int32 := own_cr i 0 t (t + d1)
def own_o2 (i t d1 d2 : Int64) : Int32 := own_co i (own_o1 i t d1) (own_t1 i t d1) ((t + d1) + d2)
def own_t2 (i t d1 d2 : Int64) : Int64 := own_ct i (own_t1 i t d1) ((t + d1) + d2)
def own_r2 (i t d1 d2 : Int64) : Int32 := own_cr i (own_o1 i t d1) (own_t1 i t d1) ((t + d1) + d2)
def own_r3 (i t d1 d2 d3 : Int64) : Int32 := own_cr i (own_o2 i t d1 d2) (own_t2 i t d1 d2) (((t + d1) + d2) + d3)
theorem own_s1 (t a : Int64) : (t + a) - t = a := by grind
theorem own_s2 (t a b : Int64) : ((t + a) + b) - t = a + b := by grind
theorem own_s3 (t a b c : Int64) : (((t + a) + b) + c) - t = (a + b) + c := by grind
theorem own_s4 (t a b c : Int64) : (((t + a) + b) + c) - (t + a) = b + c := by grind
theorem own_law (i t d1 d2 d3 : Int64) : own_r1 i t d1 = own_e1 i d1 ∧ own_r2 i t d1 d2 = own_e2 i d1 d2 ∧ own_r3 i t d1 d2 d3 = own_e3 i d1 d2 d3 := by
  have n1 : ((1 : Int32) - 0 = 0) = False := by decide
  have n2 : ((2 : Int32) - 0 = 0) = False := by decide
  have n3 : ((2 : Int32) - 1 = 0) = False := by decide
  by_cases c1 : lcmpW d1 i < (0 : Int32)
  · have a1 : own_e1 i d1 = 0 := by rw [own_e1, if_pos c1]
    have b1 : own_l1 i d1 = 0 := by rw [own_l1, a1, if_pos rfl]
    have x1 : own_r1 i t d1 = 0 := by rw [own_r1, own_cr, own_s1, if_pos c1]
    have y1 : own_o1 i t d1 = 1 := by rw [own_o1, own_co, own_s1, if_pos c1]; rfl
    have z1 : own_t1 i t d1 = t := by rw [own_t1, own_ct, own_s1, if_pos c1]
    have w1 : own_el2 i d1 d2 = d1 + d2 := by rw [own_el2, b1, if_neg (by decide)]
    refine ⟨x1.trans a1.symm, ?_⟩
    by_cases c2 : lcmpW (d1 + d2) i < (0 : Int32)
    · have a2 : own_e2 i d1 d2 = 0 := by rw [own_e2, w1, if_pos c2]
      have b2 : own_l2 i d1 d2 = 0 := by rw [own_l2, a2, b1, if_pos rfl]
      have x2 : own_r2 i t d1 d2 = 0 := by rw [own_r2, y1, z1, own_cr, own_s2, if_pos c2]
      have y2 : own_o2 i t d1 d2 = 2 := by rw [own_o2, y1, z1, own_co, own_s2, if_pos c2]; rfl
      have z2 : own_t2 i t d1 d2 = t := by rw [own_t2, z1, own_ct, own_s2, if_pos c2]
      have w2 : own_el3 i d1 d2 d3 = (d1 + d2) + d3 := by rw [own_el3, b2, if_neg (by decide), if_neg (by decide)]
      refine ⟨x2.trans a2.symm, ?_⟩
      rw [own_r3, y2, z2, own_cr, own_s3, own_e3, w2, b2]; rfl
    · have a2 : own_e2 i d1 d2 = 2 := by rw [own_e2, w1, if_neg c2, b1]; rfl
      have b2 : own_l2 i d1 d2 = 2 := by rw [own_l2, a2, if_neg (by decide)]
      have x2 : own_r2 i t d1 d2 = 2 := by rw [own_r2, y1, z1, own_cr, own_s2, if_neg c2]; rfl
      have y2 : own_o2 i t d1 d2 = 0 := by rw [own_o2, y1, z1, own_co, own_s2, if_neg c2]
      have z2 : own_t2 i t d1 d2 = (t + d1) + d2 := by rw [own_t2, z1, own_ct, own_s2, if_neg c2]
      have w2 : own_el3 i d1 d2 d3 = d3 := by rw [own_el3, b2, if_pos rfl]
      refine ⟨x2.trans a2.symm, ?_⟩
      rw [own_r3, y2, z2, own_cr, own_s1, own_e3, w2, b2]; rfl
  · have a1 : own_e1 i d1 = 1 := by rw [own_e1, if_neg c1]; rfl
    have b1 : own_l1 i d1 = 1 := by rw [own_l1, a1, if_neg (by decide)]
    have x1 : own_r1 i t d1 = 1 := by rw [own_r1, own_cr, own_s1, if_neg c1]; rfl
    have y1 : own_o1 i t d1 = 0 := by rw [own_o1, own_co, own_s1, if_neg c1]
    have z1 : own_t1 i t d1 = t + d1 := by rw [own_t1, own_ct, own_s1, if_neg c1]
    have w1 : own_el2 i d1 d2 = d2 := by rw [own_el2, b1, if_pos rfl]
    refine ⟨x1.trans a1.symm, ?_⟩
    by_cases c2 : lcmpW d2 i < (0 : Int32)
    · have a2 : own_e2 i d1 d2 = 0 := by rw [own_e2, w1, if_pos c2]
      have b2 : own_l2 i d1 d2 = 1 := by rw [own_l2, a2, b1, if_pos rfl]
      have x2 : own_r2 i t d1 d2 = 0 := by rw [own_r2, y1, z1, own_cr, own_s1, if_pos c2]
      have y2 : own_o2 i t d1 d2 = 1 := by rw [own_o2, y1, z1, own_co, own_s1, if_pos c2]; rfl
      have z2 : own_t2 i t d1 d2 = t + d1 := by rw [own_t2, z1, own_ct, own_s1, if_pos c2]
      have w2 : own_el3 i d1 d2 d3 = d2 + d3 := by rw [own_el3, b2, if_neg (by decide), if_pos rfl]
      refine ⟨x2.trans a2.symm, ?_⟩
      rw [own_r3, y2, z2, own_cr, own_s4, own_e3, w2, b2]; rfl
    · have a2 : own_e2 i d1 d2 = 1 := by rw [own_e2, w1, if_neg c2, b1]; rfl
      have b2 : own_l2 i d1 d2 = 2 := by rw [own_l2, a2, if_neg (by decide)]
      have x2 : own_r2 i t d1 d2 = 1 := by rw [own_r2, y1, z1, own_cr, own_s1, if_neg c2]; rfl
      have y2 : own_o2 i t d1 d2 = 0 := by rw [own_o2, y1, z1, own_co, own_s1, if_neg c2]
      have z2 : own_t2 i t d1 d2 = (t + d1) + d2 := by rw [own_t2, z1, own_ct, own_s1, if_neg c2]
      have w2 : own_el3 i d1 d2 d3 = d3 := by rw [own_el3, b2, if_pos rfl]
      refine ⟨x2.trans a2.symm, ?_⟩
      rw [own_r3, y2, z2, own_cr, own_s1, own_e3, w2, b2]; rfl
theorem pn_0 : plainName "com/example/tinlet/tinlet/http/LogThrottleCountPinLaw" = true := by first | (simp [plainName, overriddenIn]; done) | decide +kernel
theorem pdx_0 : parseMethodDescriptor "(J)V" = some ⟨[.long], none⟩ := by decide +kernel
theorem pdx_1 : parseMethodDescriptor "(J)I" = some ⟨[.long], some .int⟩ := by decide +kernel
theorem ef_0 (m : MethodId) (x0 : Int64) (x1 : Int64) (x2 : Int64) (x3 : Int64) (x4 : Int64) : entryFrame m #[(.long x0), (.long x1), (.long x2), (.long x3), (.long x4)] maxLocals = mkF m 0 #[.val (.long x0), .second, .val (.long x1), .second, .val (.long x2), .second, .val (.long x3), .second, .val (.long x4), .second, .unset, .unset, .unset, .unset, .unset, .unset, .unset, .unset, .unset, .unset, .unset, .unset, .unset, .unset, .unset, .unset, .unset, .unset, .unset, .unset, .unset, .unset] [] := by first | (simp [entryFrame, mkF, argsToLocals, Value.category, maxLocals]; done) | rfl
def Q0 (Z : State) (q1 : Int64) (q2 : Int64) (q3 : Int64) (q4 : Int64) (q5 : Int64) (h0 : Heap) (n0 : Nat) (v : Option Value) (h : Heap) (L : List Loc) : Prop := v = some (.int (1 : Int32)) ∧ Fr n0 L
set_option maxRecDepth 65536 in
set_option maxHeartbeats 40000000 in
theorem rm0 (l : Launch) (Z : State) (a0 : Array Value) (hw : ∀ d ∈ tables_1, d.before a0 Z = true) (ws : List Jvm.Cond) (q1 : Int64) (q2 : Int64) (q3 : Int64) (q4 : Int64) (q5 : Int64) (h0 : Heap) (n0 : Nat) (Z0 : n0 ≤ h0.size) :
    MetFree l x (head1 (Jvm.Cond.code x code maxLocals ret :: ws) room_1) (fun a U => a = #[(.long q1), (.long q2), (.long q3), (.long q4), (.long q5)] ∧ Z.Warmed39 U.vm ∧ U.heap = h0) (fun _ _ _ _ _ => True) (fun _ U o U' => ∃ v L, o = .returned v ∧ Q0 Z q1 q2 q3 q4 q5 h0 n0 v U'.heap L ∧ FrameEnd U o U' L room_1.cells room_1.slots) := by
  refine MetFree.of_bodySF (plainFor_of_name pn_0) hisR ?_
  intro p e s m args below meth c s₁ Bd hml0 hP hK
  obtain ⟨rfl, hZ, hh⟩ := hP
  have hx := Bd.exec
  have hby := Bd.bytes
  have hml : c.maxLocals = 32 := hml0
  have hown : s.vm.findClass "com/example/tinlet/tinlet/http/LogThrottleCountPinLaw" = some m.cls := findClass_of_methodNamed Bd.named
  have hnm := (name_of_methodNamed Bd.named Bd.method).1
  have X0 : Stand p l e room_1 s m #[(.long q1), (.long q2), (.long q3), (.long q4), (.long q5)] below meth c s₁ [] 0 0 := Stand.of_body Bd
  have e0 : s₁.heap = h0 := by rw [← hh, Bd.state]; rfl
  have N0 := Fr.nil n0
  have pre0 : ∀ t, Steps p.tables e below (s₁.setTop (mkF m 0 #[.val (.long q1), .second, .val (.long q2), .second, .val (.long q3), .second, .val (.long q4), .second, .val (.long q5), .second, .unset, .unset, .unset, .unset, .unset, .unset, .unset, .unset, .unset, .unset, .unset, .unset, .unset, .unset, .unset, .unset, .unset, .unset, .unset, .unset, .unset, .unset] [])) t → Steps p.tables e below (s₁.setTop (entryFrame m #[(.long q1), (.long q2), (.long q3), (.long q4), (.long q5)] maxLocals)) t := fun t k => castTop (ef_0 m q1 q2 q3 q4 q5) k
  obtain ⟨T6, h6, X6, e6, E6, A6, D6, -, st6⟩ := newO X0 hx hZ hown (hw _ (List.mem_of_getElem? (i := 0) rfl)) (hw _ (List.mem_of_getElem? (i := 1) rfl)) (hw _ (List.mem_of_getElem? (i := 2) rfl)) e0 (g := (mkF m 0 #[.val (.long q1), .second, .val (.long q2), .second, .val (.long q3), .second, .val (.long q4), .second, .val (.long q5), .second, .unset, .unset, .unset, .unset, .unset, .unset, .unset, .unset, .unset, .unset, .unset, .unset, .unset, .unset, .unset, .unset, .unset, .unset, .unset, .unset, .unset, .unset] [])) rfl (hb hby at_0) (by decide) (by decide)
  obtain ⟨b6, g6⟩ : ∃ z, z = h0.size := ⟨_, rfl⟩
  rw [← g6] at A6 D6 st6
  have F_intervalNanos_b6 : Fld Z h6 b6 "com/example/tinlet/tinlet/http/LogThrottle" "intervalNanos" "J" (.long (0 : Int64)) := D6 (Or.inr (hw _ (List.mem_of_getElem? (i := 10) rfl))) (ty := .long) (by decide)
  have F_occurrences_b6 : Fld Z h6 b6 "com/example/tinlet/tinlet/http/LogThrottle" "occurrences" "I" (.int (0 : Int32)) := D6 (Or.inl (hw _ (List.mem_of_getElem? (i := 17) rfl))) (ty := .int) (by decide)
  have F_logged_b6 : Fld Z h6 b6 "com/example/tinlet/tinlet/http/LogThrottle" "logged" "Z" (.int (0 : Int32)) := D6 (Or.inl (hw _ (List.mem_of_getElem? (i := 19) rfl))) (ty := .boolean) (by decide)
  have F_lastLine_b6 : Fld Z h6 b6 "com/example/tinlet/tinlet/http/LogThrottle" "lastLine" "J" (.long (0 : Int64)) := D6 (Or.inl (hw _ (List.mem_of_getElem? (i := 21) rfl))) (ty := .long) (by decide)
  have E_b6 := A6
  have g_b6 : n0 ≤ b6 := Nat.le_trans Z0 (Nat.le_of_eq g6.symm)
  have sz_b6 : h0.size ≤ b6 := (Nat.le_trans (Keep.refl h0 []).1 (Nat.le_of_eq g6.symm))
  have K6 : Keep h0 h6 [] := (Keep.refl h0 []).ext E6
  obtain ⟨_, _, ⟨T7, L7, k7, n7⟩, -, X7, ⟨Lc7, hQ7, l7, y7, z7⟩, st7⟩ := X6.specialBack hx (y := (⟨"com/example/tinlet/tinlet/http/LogThrottle", "<init>", "(J)V"⟩ : MethodName)) rfl hown (mvT hZ (hw _ (List.mem_of_getElem? (i := 3) rfl))) (mvT hZ (hw _ (List.mem_of_getElem? (i := 4) rfl))) (mvT hZ (hw _ (List.mem_of_getElem? (i := 5) rfl))) (by decide) (backOf (W := 1) (rm1 l Z a0 hw [] b6 q1 (.long (0 : Int64)) h6 n0 (Nat.le_trans Z0 K6.1) E_b6 F_intervalNanos_b6 g_b6 F_occurrences_b6 F_logged_b6 F_lastLine_b6) hZ (hw _ (List.mem_of_getElem? (i := 5) rfl)) (hw _ (List.mem_of_getElem? (i := 2) rfl)) (by decide) (by decide)) (g := (mkF m 5 #[.val (.long q1), .second, .val (.long q2), .second, .val (.long q3), .second, .val (.long q4), .second, .val (.long q5), .second, .unset, .unset, .unset, .unset, .unset, .unset, .unset, .unset, .unset, .unset, .unset, .unset, .unset, .unset, .unset, .unset, .unset, .unset, .unset, .unset, .unset, .unset] [(.long q1), (.ref b6), (.ref b6)])) rfl (by rw [hml]; rfl) (Steps.refl _) (a := b6) (argsL := [(.long q1)]) (rest := [(.ref b6)]) (lenOf pdx_0 rfl) rfl (by show 2 * 0 + _ ≤ _; exact Nat.le_of_eq rfl) (hb hby at_5) (fun _ _ => ⟨rfl, e6, (by decide : 1 + 0 ≤ _), (by decide : 4 + 0 ≤ _)⟩)
  dsimp only [Pt.U, Pt.locs, Pt.cells, Pt.slots] at X7 l7 y7 z7 st7 hQ7
  subst l7 y7 z7
  obtain ⟨rfl, N7q, K7, E7, F7i, F7o, F7g, F7t⟩ := hQ7
  have N7 := Fr.app N0 N7q
  have Z7 : n0 ≤ T7.heap.size := Nat.le_trans Z0 (Nat.le_trans K6.1 K7.1)
  obtain ⟨cq8, kq8, q8a, q8b, q8c⟩ := isOf hZ rfl E7
  obtain ⟨_, _, ⟨T8, L8, k8, n8⟩, -, X8, ⟨Lc8, hQ8, l8, y8, z8⟩, st8⟩ := X7.virtualBack hx (y := (⟨"com/example/tinlet/tinlet/http/LogThrottle", "count", "(J)I"⟩ : MethodName)) (z := (⟨"com/example/tinlet/tinlet/http/LogThrottle", "count", "(J)I"⟩ : MethodName)) hown (mvT hZ (hw _ (List.mem_of_getElem? (i := 11) rfl))) (mvT hZ (hw _ (List.mem_of_getElem? (i := 12) rfl))) (notFace_of_selects (args := #[]) (mvT hZ (hw _ (List.mem_of_getElem? (i := 14) rfl)))) (mvT hZ (hw _ (List.mem_of_getElem? (i := 14) rfl))) (mvT hZ (hw _ (List.mem_of_getElem? (i := 13) rfl))) (by decide) (backOf (W := 0) (rm3_t l Z a0 hw [] b6 q2 (0 : Int32) (0 : Int32) (.long (0 : Int64)) q1 T7.heap n0 Z7 F7o E7 g_b6 F7g F7t F7i rfl) hZ (hw _ (List.mem_of_getElem? (i := 15) rfl)) (hw _ (List.mem_of_getElem? (i := 2) rfl)) (by decide) (by decide)) q8a q8c (g := (mkF m 33 #[.val (.long q1), .second, .val (.long q2), .second, .val (.long q3), .second, .val (.long q4), .second, .val (.long q5), .second, .val (.ref b6), .val (.long (q2 + q3)), .second, .val (.long ((q2 + q3) + q4)), .second, .val (.long (((q2 + q3) + q4) + q5)), .second, .unset, .unset, .unset, .unset, .unset, .unset, .unset, .unset, .unset, .unset, .unset, .unset, .unset, .unset, .unset] [(.long q2), (.ref b6)])) rfl (by rw [hml]; rfl) (Steps.refl _) (argsL := [(.long q2)]) (rest := []) (lenOf pdx_1 rfl) rfl (by show 2 * 0 + _ ≤ _; exact Nat.le_of_eq rfl) (hb hby at_33) (fun _ _ => ⟨rfl, rfl, (by decide : 1 + 0 ≤ _), (by decide : 4 + 0 ≤ _)⟩)
  dsimp only [Pt.U, Pt.locs, Pt.cells, Pt.slots] at X8 l8 y8 z8 st8 hQ8
  subst l8 y8 z8
  obtain ⟨rfl, N8q, K8, E8, F8o, F8g, F8t, F8i⟩ := hQ8
  have N8 := Fr.app N7 N8q
  have Z8 : n0 ≤ T8.heap.size := Nat.le_trans Z7 K8.1
  obtain ⟨cq9, kq9, q9a, q9b, q9c⟩ := isOf hZ rfl E8
  obtain ⟨_, _, ⟨T9, L9, k9, n9⟩, -, X9, ⟨Lc9, hQ9, l9, y9, z9⟩, st9⟩ := X8.virtualBack hx (y := (⟨"com/example/tinlet/tinlet/http/LogThrottle", "count", "(J)I"⟩ : MethodName)) (z := (⟨"com/example/tinlet/tinlet/http/LogThrottle", "count", "(J)I"⟩ : MethodName)) hown (mvT hZ (hw _ (List.mem_of_getElem? (i := 11) rfl))) (mvT hZ (hw _ (List.mem_of_getElem? (i := 12) rfl))) (notFace_of_selects (args := #[]) (mvT hZ (hw _ (List.mem_of_getElem? (i := 14) rfl)))) (mvT hZ (hw _ (List.mem_of_getElem? (i := 14) rfl))) (mvT hZ (hw _ (List.mem_of_getElem? (i := 13) rfl))) (by decide) (backOf (W := 0) (rm3 l Z a0 hw [] b6 (q2 + q3) (0 : Int32) q2 q1 T8.heap n0 Z8 F8o E8 g_b6 F8g F8t F8i) hZ (hw _ (List.mem_of_getElem? (i := 15) rfl)) (hw _ (List.mem_of_getElem? (i := 2) rfl)) (by decide) (by decide)) q9a q9c (g := (mkF m 42 #[.val (.long q1), .second, .val (.long q2), .second, .val (.long q3), .second, .val (.long q4), .second, .val (.long q5), .second, .val (.ref b6), .val (.long (q2 + q3)), .second, .val (.long ((q2 + q3) + q4)), .second, .val (.long (((q2 + q3) + q4) + q5)), .second, .val (.int ((0 : Int32) + (1 : Int32))), .unset, .unset, .unset, .unset, .unset, .unset, .unset, .unset, .unset, .unset, .unset, .unset, .unset, .unset] [(.long (q2 + q3)), (.ref b6)])) rfl (by rw [hml]; rfl) (Steps.refl _) (argsL := [(.long (q2 + q3))]) (rest := []) (lenOf pdx_1 rfl) rfl (by show 2 * 0 + _ ≤ _; exact Nat.le_of_eq rfl) (hb hby at_42) (fun _ _ => ⟨rfl, rfl, (by decide : 1 + 0 ≤ _), (by decide : 4 + 0 ≤ _)⟩)
  dsimp only [Pt.U, Pt.locs, Pt.cells, Pt.slots] at X9 l9 y9 z9 st9 hQ9
  subst l9 y9 z9
  obtain ⟨rfl, N9q, K9, E9, F9o, F9g, F9t, F9i⟩ := hQ9
  have N9 := Fr.app N8 N9q
  have Z9 : n0 ≤ T9.heap.size := Nat.le_trans Z8 K9.1
  obtain ⟨cq10, kq10, q10a, q10b, q10c⟩ := isOf hZ rfl E9
  obtain ⟨_, _, ⟨T10, L10, k10, n10⟩, -, X10, ⟨Lc10, hQ10, l10, y10, z10⟩, st10⟩ := X9.virtualBack hx (y := (⟨"com/example/tinlet/tinlet/http/LogThrottle", "count", "(J)I"⟩ : MethodName)) (z := (⟨"com/example/tinlet/tinlet/http/LogThrottle", "count", "(J)I"⟩ : MethodName)) hown (mvT hZ (hw _ (List.mem_of_getElem? (i := 11) rfl))) (mvT hZ (hw _ (List.mem_of_getElem? (i := 12) rfl))) (notFace_of_selects (args := #[]) (mvT hZ (hw _ (List.mem_of_getElem? (i := 14) rfl)))) (mvT hZ (hw _ (List.mem_of_getElem? (i := 14) rfl))) (mvT hZ (hw _ (List.mem_of_getElem? (i := 13) rfl))) (by decide) (backOf (W := 0) (rm3 l Z a0 hw [] b6 ((q2 + q3) + q4) (own_o1 q1 q2 q3) (own_t1 q1 q2 q3) q1 T9.heap n0 Z9 F9o E9 g_b6 F9g F9t F9i) hZ (hw _ (List.mem_of_getElem? (i := 15) rfl)) (hw _ (List.mem_of_getElem? (i := 2) rfl)) (by decide) (by decide)) q10a q10c (g := (mkF m 51 #[.val (.long q1), .second, .val (.long q2), .second, .val (.long q3), .second, .val (.long q4), .second, .val (.long q5), .second, .val (.ref b6), .val (.long (q2 + q3)), .second, .val (.long ((q2 + q3) + q4)), .second, .val (.long (((q2 + q3) + q4) + q5)), .second, .val (.int ((0 : Int32) + (1 : Int32))), .val (.int (own_r1 q1 q2 q3)), .unset, .unset, .unset, .unset, .unset, .unset, .unset, .unset, .unset, .unset, .unset, .unset, .unset] [(.long ((q2 + q3) + q4)), (.ref b6)])) rfl (by rw [hml]; rfl) (Steps.refl _) (argsL := [(.long ((q2 + q3) + q4))]) (rest := []) (lenOf pdx_1 rfl) rfl (by show 2 * 0 + _ ≤ _; exact Nat.le_of_eq rfl) (hb hby at_51) (fun _ _ => ⟨rfl, rfl, (by decide : 1 + 0 ≤ _), (by decide : 4 + 0 ≤ _)⟩)
  dsimp only [Pt.U, Pt.locs, Pt.cells, Pt.slots] at X10 l10 y10 z10 st10 hQ10
  subst l10 y10 z10
  obtain ⟨rfl, N10q, K10, E10, F10o, F10g, F10t, F10i⟩ := hQ10
  have N10 := Fr.app N9 N10q
  have Z10 : n0 ≤ T10.heap.size := Nat.le_trans Z9 K10.1
  obtain ⟨cq11, kq11, q11a, q11b, q11c⟩ := isOf hZ rfl E10
  obtain ⟨_, _, ⟨T11, L11, k11, n11⟩, -, X11, ⟨Lc11, hQ11, l11, y11, z11⟩, st11⟩ := X10.virtualBack hx (y := (⟨"com/example/tinlet/tinlet/http/LogThrottle", "count", "(J)I"⟩ : MethodName)) (z := (⟨"com/example/tinlet/tinlet/http/LogThrottle", "count", "(J)I"⟩ : MethodName)) hown (mvT hZ (hw _ (List.mem_of_getElem? (i := 11) rfl))) (mvT hZ (hw _ (List.mem_of_getElem? (i := 12) rfl))) (notFace_of_selects (args := #[]) (mvT hZ (hw _ (List.mem_of_getElem? (i := 14) rfl)))) (mvT hZ (hw _ (List.mem_of_getElem? (i := 14) rfl))) (mvT hZ (hw _ (List.mem_of_getElem? (i := 13) rfl))) (by decide) (backOf (W := 0) (rm3 l Z a0 hw [] b6 (((q2 + q3) + q4) + q5) (own_o2 q1 q2 q3 q4) (own_t2 q1 q2 q3 q4) q1 T10.heap n0 Z10 F10o E10 g_b6 F10g F10t F10i) hZ (hw _ (List.mem_of_getElem? (i := 15) rfl)) (hw _ (List.mem_of_getElem? (i := 2) rfl)) (by decide) (by decide)) q11a q11c (g := (mkF m 60 #[.val (.long q1), .second, .val (.long q2), .second, .val (.long q3), .second, .val (.long q4), .second, .val (.long q5), .second, .val (.ref b6), .val (.long (q2 + q3)), .second, .val (.long ((q2 + q3) + q4)), .second, .val (.long (((q2 + q3) + q4) + q5)), .second, .val (.int ((0 : Int32) + (1 : Int32))), .val (.int (own_r1 q1 q2 q3)), .val (.int (own_r2 q1 q2 q3 q4)), .unset, .unset, .unset, .unset, .unset, .unset, .unset, .unset, .unset, .unset, .unset, .unset] [(.long (((q2 + q3) + q4) + q5)), (.ref b6)])) rfl (by rw [hml]; rfl) (Steps.refl _) (argsL := [(.long (((q2 + q3) + q4) + q5))]) (rest := []) (lenOf pdx_1 rfl) rfl (by show 2 * 0 + _ ≤ _; exact Nat.le_of_eq rfl) (hb hby at_60) (fun _ _ => ⟨rfl, rfl, (by decide : 1 + 0 ≤ _), (by decide : 4 + 0 ≤ _)⟩)
  dsimp only [Pt.U, Pt.locs, Pt.cells, Pt.slots] at X11 l11 y11 z11 st11 hQ11
  subst l11 y11 z11
  obtain ⟨rfl, N11q, K11, E11, F11o, F11g, F11t, F11i⟩ := hQ11
  have N11 := Fr.app N10 N11q
  obtain ⟨fs, hr, hrun, hended, hW, hsame⟩ := X11.leave (v := some (.int (1 : Int32))) (fun h => by rw [Bd.returns] at h; cases h)
  refine ⟨_, _, pre0 _ ?_, hrun, hended, _, _, rfl, ?_, ⟨_, rfl⟩, hW, hsame.mono (by decide) (by decide)⟩
  · show Steps p.tables e below (s₁.setTop (mkF m 0 #[.val (.long q1), .second, .val (.long q2), .second, .val (.long q3), .second, .val (.long q4), .second, .val (.long q5), .second, .unset, .unset, .unset, .unset, .unset, .unset, .unset, .unset, .unset, .unset, .unset, .unset, .unset, .unset, .unset, .unset, .unset, .unset, .unset, .unset, .unset, .unset] [])) _
    refine st6 _ ?_
    show Steps p.tables e below (T6.setTop (mkF m 3 #[.val (.long q1), .second, .val (.long q2), .second, .val (.long q3), .second, .val (.long q4), .second, .val (.long q5), .second, .unset, .unset, .unset, .unset, .unset, .unset, .unset, .unset, .unset, .unset, .unset, .unset, .unset, .unset, .unset, .unset, .unset, .unset, .unset, .unset, .unset, .unset] [(.ref b6)])) _
    refine XS.dup X6.here hx rfl (hb hby at_3) rfl rfl ?_
    show Steps p.tables e below (T6.setTop (mkF m 4 #[.val (.long q1), .second, .val (.long q2), .second, .val (.long q3), .second, .val (.long q4), .second, .val (.long q5), .second, .unset, .unset, .unset, .unset, .unset, .unset, .unset, .unset, .unset, .unset, .unset, .unset, .unset, .unset, .unset, .unset, .unset, .unset, .unset, .unset, .unset, .unset] [(.ref b6), (.ref b6)])) _
    refine XS.lloadN X6.here hx rfl (hb hby at_4) rfl ?_
    show Steps p.tables e below (T6.setTop (mkF m 5 #[.val (.long q1), .second, .val (.long q2), .second, .val (.long q3), .second, .val (.long q4), .second, .val (.long q5), .second, .unset, .unset, .unset, .unset, .unset, .unset, .unset, .unset, .unset, .unset, .unset, .unset, .unset, .unset, .unset, .unset, .unset, .unset, .unset, .unset, .unset, .unset] [(.long q1), (.ref b6), (.ref b6)])) _
    refine st7.trans ?_
    show Steps p.tables e below (T7.setTop (mkF m 8 #[.val (.long q1), .second, .val (.long q2), .second, .val (.long q3), .second, .val (.long q4), .second, .val (.long q5), .second, .unset, .unset, .unset, .unset, .unset, .unset, .unset, .unset, .unset, .unset, .unset, .unset, .unset, .unset, .unset, .unset, .unset, .unset, .unset, .unset, .unset, .unset] [(.ref b6)])) _
    refine XS.astore X7.here hx rfl (hb hby at_8) rfl rfl (l' := #[.val (.long q1), .second, .val (.long q2), .second, .val (.long q3), .second, .val (.long q4), .second, .val (.long q5), .second, .val (.ref b6), .unset, .unset, .unset, .unset, .unset, .unset, .unset, .unset, .unset, .unset, .unset, .unset, .unset, .unset, .unset, .unset, .unset, .unset, .unset, .unset, .unset]) rfl ?_
    show Steps p.tables e below (T7.setTop (mkF m 10 #[.val (.long q1), .second, .val (.long q2), .second, .val (.long q3), .second, .val (.long q4), .second, .val (.long q5), .second, .val (.ref b6), .unset, .unset, .unset, .unset, .unset, .unset, .unset, .unset, .unset, .unset, .unset, .unset, .unset, .unset, .unset, .unset, .unset, .unset, .unset, .unset, .unset] [])) _
    refine XS.lloadN X7.here hx rfl (hb hby at_10) rfl ?_
    show Steps p.tables e below (T7.setTop (mkF m 11 #[.val (.long q1), .second, .val (.long q2), .second, .val (.long q3), .second, .val (.long q4), .second, .val (.long q5), .second, .val (.ref b6), .unset, .unset, .unset, .unset, .unset, .unset, .unset, .unset, .unset, .unset, .unset, .unset, .unset, .unset, .unset, .unset, .unset, .unset, .unset, .unset, .unset] [(.long q2)])) _
    refine XS.lload X7.here hx rfl (hb hby at_11) rfl ?_
    show Steps p.tables e below (T7.setTop (mkF m 13 #[.val (.long q1), .second, .val (.long q2), .second, .val (.long q3), .second, .val (.long q4), .second, .val (.long q5), .second, .val (.ref b6), .unset, .unset, .unset, .unset, .unset, .unset, .unset, .unset, .unset, .unset, .unset, .unset, .unset, .unset, .unset, .unset, .unset, .unset, .unset, .unset, .unset] [(.long q3), (.long q2)])) _
    refine XS.ladd X7.here hx rfl (hb hby at_13) rfl ?_
    show Steps p.tables e below (T7.setTop (mkF m 14 #[.val (.long q1), .second, .val (.long q2), .second, .val (.long q3), .second, .val (.long q4), .second, .val (.long q5), .second, .val (.ref b6), .unset, .unset, .unset, .unset, .unset, .unset, .unset, .unset, .unset, .unset, .unset, .unset, .unset, .unset, .unset, .unset, .unset, .unset, .unset, .unset, .unset] [(.long (q2 + q3))])) _
    refine XS.lstore X7.here hx rfl (hb hby at_14) rfl (l' := #[.val (.long q1), .second, .val (.long q2), .second, .val (.long q3), .second, .val (.long q4), .second, .val (.long q5), .second, .val (.ref b6), .val (.long (q2 + q3)), .second, .unset, .unset, .unset, .unset, .unset, .unset, .unset, .unset, .unset, .unset, .unset, .unset, .unset, .unset, .unset, .unset, .unset, .unset, .unset]) rfl ?_
    show Steps p.tables e below (T7.setTop (mkF m 16 #[.val (.long q1), .second, .val (.long q2), .second, .val (.long q3), .second, .val (.long q4), .second, .val (.long q5), .second, .val (.ref b6), .val (.long (q2 + q3)), .second, .unset, .unset, .unset, .unset, .unset, .unset, .unset, .unset, .unset, .unset, .unset, .unset, .unset, .unset, .unset, .unset, .unset, .unset, .unset] [])) _
    refine XS.lload X7.here hx rfl (hb hby at_16) rfl ?_
    show Steps p.tables e below (T7.setTop (mkF m 18 #[.val (.long q1), .second, .val (.long q2), .second, .val (.long q3), .second, .val (.long q4), .second, .val (.long q5), .second, .val (.ref b6), .val (.long (q2 + q3)), .second, .unset, .unset, .unset, .unset, .unset, .unset, .unset, .unset, .unset, .unset, .unset, .unset, .unset, .unset, .unset, .unset, .unset, .unset, .unset] [(.long (q2 + q3))])) _
    refine XS.lload X7.here hx rfl (hb hby at_18) rfl ?_
    show Steps p.tables e below (T7.setTop (mkF m 20 #[.val (.long q1), .second, .val (.long q2), .second, .val (.long q3), .second, .val (.long q4), .second, .val (.long q5), .second, .val (.ref b6), .val (.long (q2 + q3)), .second, .unset, .unset, .unset, .unset, .unset, .unset, .unset, .unset, .unset, .unset, .unset, .unset, .unset, .unset, .unset, .unset, .unset, .unset, .unset] [(.long q4), (.long (q2 + q3))])) _
    refine XS.ladd X7.here hx rfl (hb hby at_20) rfl ?_
    show Steps p.tables e below (T7.setTop (mkF m 21 #[.val (.long q1), .second, .val (.long q2), .second, .val (.long q3), .second, .val (.long q4), .second, .val (.long q5), .second, .val (.ref b6), .val (.long (q2 + q3)), .second, .unset, .unset, .unset, .unset, .unset, .unset, .unset, .unset, .unset, .unset, .unset, .unset, .unset, .unset, .unset, .unset, .unset, .unset, .unset] [(.long ((q2 + q3) + q4))])) _
    refine XS.lstore X7.here hx rfl (hb hby at_21) rfl (l' := #[.val (.long q1), .second, .val (.long q2), .second, .val (.long q3), .second, .val (.long q4), .second, .val (.long q5), .second, .val (.ref b6), .val (.long (q2 + q3)), .second, .val (.long ((q2 + q3) + q4)), .second, .unset, .unset, .unset, .unset, .unset, .unset, .unset, .unset, .unset, .unset, .unset, .unset, .unset, .unset, .unset, .unset, .unset]) rfl ?_
    show Steps p.tables e below (T7.setTop (mkF m 23 #[.val (.long q1), .second, .val (.long q2), .second, .val (.long q3), .second, .val (.long q4), .second, .val (.long q5), .second, .val (.ref b6), .val (.long (q2 + q3)), .second, .val (.long ((q2 + q3) + q4)), .second, .unset, .unset, .unset, .unset, .unset, .unset, .unset, .unset, .unset, .unset, .unset, .unset, .unset, .unset, .unset, .unset, .unset] [])) _
    refine XS.lload X7.here hx rfl (hb hby at_23) rfl ?_
    show Steps p.tables e below (T7.setTop (mkF m 25 #[.val (.long q1), .second, .val (.long q2), .second, .val (.long q3), .second, .val (.long q4), .second, .val (.long q5), .second, .val (.ref b6), .val (.long (q2 + q3)), .second, .val (.long ((q2 + q3) + q4)), .second, .unset, .unset, .unset, .unset, .unset, .unset, .unset, .unset, .unset, .unset, .unset, .unset, .unset, .unset, .unset, .unset, .unset] [(.long ((q2 + q3) + q4))])) _
    refine XS.lload X7.here hx rfl (hb hby at_25) rfl ?_
    show Steps p.tables e below (T7.setTop (mkF m 27 #[.val (.long q1), .second, .val (.long q2), .second, .val (.long q3), .second, .val (.long q4), .second, .val (.long q5), .second, .val (.ref b6), .val (.long (q2 + q3)), .second, .val (.long ((q2 + q3) + q4)), .second, .unset, .unset, .unset, .unset, .unset, .unset, .unset, .unset, .unset, .unset, .unset, .unset, .unset, .unset, .unset, .unset, .unset] [(.long q5), (.long ((q2 + q3) + q4))])) _
    refine XS.ladd X7.here hx rfl (hb hby at_27) rfl ?_
    show Steps p.tables e below (T7.setTop (mkF m 28 #[.val (.long q1), .second, .val (.long q2), .second, .val (.long q3), .second, .val (.long q4), .second, .val (.long q5), .second, .val (.ref b6), .val (.long (q2 + q3)), .second, .val (.long ((q2 + q3) + q4)), .second, .unset, .unset, .unset, .unset, .unset, .unset, .unset, .unset, .unset, .unset, .unset, .unset, .unset, .unset, .unset, .unset, .unset] [(.long (((q2 + q3) + q4) + q5))])) _
    refine XS.lstore X7.here hx rfl (hb hby at_28) rfl (l' := #[.val (.long q1), .second, .val (.long q2), .second, .val (.long q3), .second, .val (.long q4), .second, .val (.long q5), .second, .val (.ref b6), .val (.long (q2 + q3)), .second, .val (.long ((q2 + q3) + q4)), .second, .val (.long (((q2 + q3) + q4) + q5)), .second, .unset, .unset, .unset, .unset, .unset, .unset, .unset, .unset, .unset, .unset, .unset, .unset, .unset, .unset, .unset]) rfl ?_
    show Steps p.tables e below (T7.setTop (mkF m 30 #[.val (.long q1), .second, .val (.long q2), .second, .val (.long q3), .second, .val (.long q4), .second, .val (.long q5), .second, .val (.ref b6), .val (.long (q2 + q3)), .second, .val (.long ((q2 + q3) + q4)), .second, .val (.long (((q2 + q3) + q4) + q5)), .second, .unset, .unset, .unset, .unset, .unset, .unset, .unset, .unset, .unset, .unset, .unset, .unset, .unset, .unset, .unset] [])) _
    refine XS.aload X7.here hx rfl (hb hby at_30) rfl rfl ?_
    show Steps p.tables e below (T7.setTop (mkF m 32 #[.val (.long q1), .second, .val (.long q2), .second, .val (.long q3), .second, .val (.long q4), .second, .val (.long q5), .second, .val (.ref b6), .val (.long (q2 + q3)), .second, .val (.long ((q2 + q3) + q4)), .second, .val (.long (((q2 + q3) + q4) + q5)), .second, .unset, .unset, .unset, .unset, .unset, .unset, .unset, .unset, .unset, .unset, .unset, .unset, .unset, .unset, .unset] [(.ref b6)])) _
    refine XS.lloadN X7.here hx rfl (hb hby at_32) rfl ?_
    show Steps p.tables e below (T7.setTop (mkF m 33 #[.val (.long q1), .second, .val (.long q2), .second, .val (.long q3), .second, .val (.long q4), .second, .val (.long q5), .second, .val (.ref b6), .val (.long (q2 + q3)), .second, .val (.long ((q2 + q3) + q4)), .second, .val (.long (((q2 + q3) + q4) + q5)), .second, .unset, .unset, .unset, .unset, .unset, .unset, .unset, .unset, .unset, .unset, .unset, .unset, .unset, .unset, .unset] [(.long q2), (.ref b6)])) _
    refine st8.trans ?_
    show Steps p.tables e below (T8.setTop (mkF m 36 #[.val (.long q1), .second, .val (.long q2), .second, .val (.long q3), .second, .val (.long q4), .second, .val (.long q5), .second, .val (.ref b6), .val (.long (q2 + q3)), .second, .val (.long ((q2 + q3) + q4)), .second, .val (.long (((q2 + q3) + q4) + q5)), .second, .unset, .unset, .unset, .unset, .unset, .unset, .unset, .unset, .unset, .unset, .unset, .unset, .unset, .unset, .unset] [(.int ((0 : Int32) + (1 : Int32)))])) _
    refine XS.istore X8.here hx rfl (hb hby at_36) rfl (l' := #[.val (.long q1), .second, .val (.long q2), .second, .val (.long q3), .second, .val (.long q4), .second, .val (.long q5), .second, .val (.ref b6), .val (.long (q2 + q3)), .second, .val (.long ((q2 + q3) + q4)), .second, .val (.long (((q2 + q3) + q4) + q5)), .second, .val (.int ((0 : Int32) + (1 : Int32))), .unset, .unset, .unset, .unset, .unset, .unset, .unset, .unset, .unset, .unset, .unset, .unset, .unset, .unset]) rfl ?_
    show Steps p.tables e below (T8.setTop (mkF m 38 #[.val (.long q1), .second, .val (.long q2), .second, .val (.long q3), .second, .val (.long q4), .second, .val (.long q5), .second, .val (.ref b6), .val (.long (q2 + q3)), .second, .val (.long ((q2 + q3) + q4)), .second, .val (.long (((q2 + q3) + q4) + q5)), .second, .val (.int ((0 : Int32) + (1 : Int32))), .unset, .unset, .unset, .unset, .unset, .unset, .unset, .unset, .unset, .unset, .unset, .unset, .unset, .unset] [])) _
    refine XS.aload X8.here hx rfl (hb hby at_38) rfl rfl ?_
    show Steps p.tables e below (T8.setTop (mkF m 40 #[.val (.long q1), .second, .val (.long q2), .second, .val (.long q3), .second, .val (.long q4), .second, .val (.long q5), .second, .val (.ref b6), .val (.long (q2 + q3)), .second, .val (.long ((q2 + q3) + q4)), .second, .val (.long (((q2 + q3) + q4) + q5)), .second, .val (.int ((0 : Int32) + (1 : Int32))), .unset, .unset, .unset, .unset, .unset, .unset, .unset, .unset, .unset, .unset, .unset, .unset, .unset, .unset] [(.ref b6)])) _
    refine XS.lload X8.here hx rfl (hb hby at_40) rfl ?_
    show Steps p.tables e below (T8.setTop (mkF m 42 #[.val (.long q1), .second, .val (.long q2), .second, .val (.long q3), .second, .val (.long q4), .second, .val (.long q5), .second, .val (.ref b6), .val (.long (q2 + q3)), .second, .val (.long ((q2 + q3) + q4)), .second, .val (.long (((q2 + q3) + q4) + q5)), .second, .val (.int ((0 : Int32) + (1 : Int32))), .unset, .unset, .unset, .unset, .unset, .unset, .unset, .unset, .unset, .unset, .unset, .unset, .unset, .unset] [(.long (q2 + q3)), (.ref b6)])) _
    refine st9.trans ?_
    show Steps p.tables e below (T9.setTop (mkF m 45 #[.val (.long q1), .second, .val (.long q2), .second, .val (.long q3), .second, .val (.long q4), .second, .val (.long q5), .second, .val (.ref b6), .val (.long (q2 + q3)), .second, .val (.long ((q2 + q3) + q4)), .second, .val (.long (((q2 + q3) + q4) + q5)), .second, .val (.int ((0 : Int32) + (1 : Int32))), .unset, .unset, .unset, .unset, .unset, .unset, .unset, .unset, .unset, .unset, .unset, .unset, .unset, .unset] [(.int (own_r1 q1 q2 q3))])) _
    refine XS.istore X9.here hx rfl (hb hby at_45) rfl (l' := #[.val (.long q1), .second, .val (.long q2), .second, .val (.long q3), .second, .val (.long q4), .second, .val (.long q5), .second, .val (.ref b6), .val (.long (q2 + q3)), .second, .val (.long ((q2 + q3) + q4)), .second, .val (.long (((q2 + q3) + q4) + q5)), .second, .val (.int ((0 : Int32) + (1 : Int32))), .val (.int (own_r1 q1 q2 q3)), .unset, .unset, .unset, .unset, .unset, .unset, .unset, .unset, .unset, .unset, .unset, .unset, .unset]) rfl ?_
    show Steps p.tables e below (T9.setTop (mkF m 47 #[.val (.long q1), .second, .val (.long q2), .second, .val (.long q3), .second, .val (.long q4), .second, .val (.long q5), .second, .val (.ref b6), .val (.long (q2 + q3)), .second, .val (.long ((q2 + q3) + q4)), .second, .val (.long (((q2 + q3) + q4) + q5)), .second, .val (.int ((0 : Int32) + (1 : Int32))), .val (.int (own_r1 q1 q2 q3)), .unset, .unset, .unset, .unset, .unset, .unset, .unset, .unset, .unset, .unset, .unset, .unset, .unset] [])) _
    refine XS.aload X9.here hx rfl (hb hby at_47) rfl rfl ?_
    show Steps p.tables e below (T9.setTop (mkF m 49 #[.val (.long q1), .second, .val (.long q2), .second, .val (.long q3), .second, .val (.long q4), .second, .val (.long q5), .second, .val (.ref b6), .val (.long (q2 + q3)), .second, .val (.long ((q2 + q3) + q4)), .second, .val (.long (((q2 + q3) + q4) + q5)), .second, .val (.int ((0 : Int32) + (1 : Int32))), .val (.int (own_r1 q1 q2 q3)), .unset, .unset, .unset, .unset, .unset, .unset, .unset, .unset, .unset, .unset, .unset, .unset, .unset] [(.ref b6)])) _
    refine XS.lload X9.here hx rfl (hb hby at_49) rfl ?_
    show Steps p.tables e below (T9.setTop (mkF m 51 #[.val (.long q1), .second, .val (.long q2), .second, .val (.long q3), .second, .val (.long q4), .second, .val (.long q5), .second, .val (.ref b6), .val (.long (q2 + q3)), .second, .val (.long ((q2 + q3) + q4)), .second, .val (.long (((q2 + q3) + q4) + q5)), .second, .val (.int ((0 : Int32) + (1 : Int32))), .val (.int (own_r1 q1 q2 q3)), .unset, .unset, .unset, .unset, .unset, .unset, .unset, .unset, .unset, .unset, .unset, .unset, .unset] [(.long ((q2 + q3) + q4)), (.ref b6)])) _
    refine st10.trans ?_
    show Steps p.tables e below (T10.setTop (mkF m 54 #[.val (.long q1), .second, .val (.long q2), .second, .val (.long q3), .second, .val (.long q4), .second, .val (.long q5), .second, .val (.ref b6), .val (.long (q2 + q3)), .second, .val (.long ((q2 + q3) + q4)), .second, .val (.long (((q2 + q3) + q4) + q5)), .second, .val (.int ((0 : Int32) + (1 : Int32))), .val (.int (own_r1 q1 q2 q3)), .unset, .unset, .unset, .unset, .unset, .unset, .unset, .unset, .unset, .unset, .unset, .unset, .unset] [(.int (own_r2 q1 q2 q3 q4))])) _
    refine XS.istore X10.here hx rfl (hb hby at_54) rfl (l' := #[.val (.long q1), .second, .val (.long q2), .second, .val (.long q3), .second, .val (.long q4), .second, .val (.long q5), .second, .val (.ref b6), .val (.long (q2 + q3)), .second, .val (.long ((q2 + q3) + q4)), .second, .val (.long (((q2 + q3) + q4) + q5)), .second, .val (.int ((0 : Int32) + (1 : Int32))), .val (.int (own_r1 q1 q2 q3)), .val (.int (own_r2 q1 q2 q3 q4)), .unset, .unset, .unset, .unset, .unset, .unset, .unset, .unset, .unset, .unset, .unset, .unset]) rfl ?_
    show Steps p.tables e below (T10.setTop (mkF m 56 #[.val (.long q1), .second, .val (.long q2), .second, .val (.long q3), .second, .val (.long q4), .second, .val (.long q5), .second, .val (.ref b6), .val (.long (q2 + q3)), .second, .val (.long ((q2 + q3) + q4)), .second, .val (.long (((q2 + q3) + q4) + q5)), .second, .val (.int ((0 : Int32) + (1 : Int32))), .val (.int (own_r1 q1 q2 q3)), .val (.int (own_r2 q1 q2 q3 q4)), .unset, .unset, .unset, .unset, .unset, .unset, .unset, .unset, .unset, .unset, .unset, .unset] [])) _
    refine XS.aload X10.here hx rfl (hb hby at_56) rfl rfl ?_
    show Steps p.tables e below (T10.setTop (mkF m 58 #[.val (.long q1), .second, .val (.long q2), .second, .val (.long q3), .second, .val (.long q4), .second, .val (.long q5), .second, .val (.ref b6), .val (.long (q2 + q3)), .second, .val (.long ((q2 + q3) + q4)), .second, .val (.long (((q2 + q3) + q4) + q5)), .second, .val (.int ((0 : Int32) + (1 : Int32))), .val (.int (own_r1 q1 q2 q3)), .val (.int (own_r2 q1 q2 q3 q4)), .unset, .unset, .unset, .unset, .unset, .unset, .unset, .unset, .unset, .unset, .unset, .unset] [(.ref b6)])) _
    refine XS.lload X10.here hx rfl (hb hby at_58) rfl ?_
    show Steps p.tables e below (T10.setTop (mkF m 60 #[.val (.long q1), .second, .val (.long q2), .second, .val (.long q3), .second, .val (.long q4), .second, .val (.long q5), .second, .val (.ref b6), .val (.long (q2 + q3)), .second, .val (.long ((q2 + q3) + q4)), .second, .val (.long (((q2 + q3) + q4) + q5)), .second, .val (.int ((0 : Int32) + (1 : Int32))), .val (.int (own_r1 q1 q2 q3)), .val (.int (own_r2 q1 q2 q3 q4)), .unset, .unset, .unset, .unset, .unset, .unset, .unset, .unset, .unset, .unset, .unset, .unset] [(.long (((q2 + q3) + q4) + q5)), (.ref b6)])) _
    refine st11.trans ?_
    show Steps p.tables e below (T11.setTop (mkF m 63 #[.val (.long q1), .second, .val (.long q2), .second, .val (.long q3), .second, .val (.long q4), .second, .val (.long q5), .second, .val (.ref b6), .val (.long (q2 + q3)), .second, .val (.long ((q2 + q3) + q4)), .second, .val (.long (((q2 + q3) + q4) + q5)), .second, .val (.int ((0 : Int32) + (1 : Int32))), .val (.int (own_r1 q1 q2 q3)), .val (.int (own_r2 q1 q2 q3 q4)), .unset, .unset, .unset, .unset, .unset, .unset, .unset, .unset, .unset, .unset, .unset, .unset] [(.int (own_r3 q1 q2 q3 q4 q5))])) _
    refine XS.istore X11.here hx rfl (hb hby at_63) rfl (l' := #[.val (.long q1), .second, .val (.long q2), .second, .val (.long q3), .second, .val (.long q4), .second, .val (.long q5), .second, .val (.ref b6), .val (.long (q2 + q3)), .second, .val (.long ((q2 + q3) + q4)), .second, .val (.long (((q2 + q3) + q4) + q5)), .second, .val (.int ((0 : Int32) + (1 : Int32))), .val (.int (own_r1 q1 q2 q3)), .val (.int (own_r2 q1 q2 q3 q4)), .val (.int (own_r3 q1 q2 q3 q4 q5)), .unset, .unset, .unset, .unset, .unset, .unset, .unset, .unset, .unset, .unset, .unset]) rfl ?_
    show Steps p.tables e below (T11.setTop (mkF m 65 #[.val (.long q1), .second, .val (.long q2), .second, .val (.long q3), .second, .val (.long q4), .second, .val (.long q5), .second, .val (.ref b6), .val (.long (q2 + q3)), .second, .val (.long ((q2 + q3) + q4)), .second, .val (.long (((q2 + q3) + q4) + q5)), .second, .val (.int ((0 : Int32) + (1 : Int32))), .val (.int (own_r1 q1 q2 q3)), .val (.int (own_r2 q1 q2 q3 q4)), .val (.int (own_r3 q1 q2 q3 q4 q5)), .unset, .unset, .unset, .unset, .unset, .unset, .unset, .unset, .unset, .unset, .unset] [])) _
    refine XS.iconst X11.here hx rfl (hb hby at_65) ?_
    show Steps p.tables e below (T11.setTop (mkF m 66 #[.val (.long q1), .second, .val (.long q2), .second, .val (.long q3), .second, .val (.long q4), .second, .val (.long q5), .second, .val (.ref b6), .val (.long (q2 + q3)), .second, .val (.long ((q2 + q3) + q4)), .second, .val (.long (((q2 + q3) + q4) + q5)), .second, .val (.int ((0 : Int32) + (1 : Int32))), .val (.int (own_r1 q1 q2 q3)), .val (.int (own_r2 q1 q2 q3 q4)), .val (.int (own_r3 q1 q2 q3 q4 q5)), .unset, .unset, .unset, .unset, .unset, .unset, .unset, .unset, .unset, .unset, .unset] [(.int (1 : Int32))])) _
    refine XS.istore X11.here hx rfl (hb hby at_66) rfl (l' := #[.val (.long q1), .second, .val (.long q2), .second, .val (.long q3), .second, .val (.long q4), .second, .val (.long q5), .second, .val (.ref b6), .val (.long (q2 + q3)), .second, .val (.long ((q2 + q3) + q4)), .second, .val (.long (((q2 + q3) + q4) + q5)), .second, .val (.int ((0 : Int32) + (1 : Int32))), .val (.int (own_r1 q1 q2 q3)), .val (.int (own_r2 q1 q2 q3 q4)), .val (.int (own_r3 q1 q2 q3 q4 q5)), .val (.int (1 : Int32)), .unset, .unset, .unset, .unset, .unset, .unset, .unset, .unset, .unset, .unset]) rfl ?_
    show Steps p.tables e below (T11.setTop (mkF m 68 #[.val (.long q1), .second, .val (.long q2), .second, .val (.long q3), .second, .val (.long q4), .second, .val (.long q5), .second, .val (.ref b6), .val (.long (q2 + q3)), .second, .val (.long ((q2 + q3) + q4)), .second, .val (.long (((q2 + q3) + q4) + q5)), .second, .val (.int ((0 : Int32) + (1 : Int32))), .val (.int (own_r1 q1 q2 q3)), .val (.int (own_r2 q1 q2 q3 q4)), .val (.int (own_r3 q1 q2 q3 q4 q5)), .val (.int (1 : Int32)), .unset, .unset, .unset, .unset, .unset, .unset, .unset, .unset, .unset, .unset] [])) _
    refine XS.iconst X11.here hx rfl (hb hby at_68) ?_
    show Steps p.tables e below (T11.setTop (mkF m 69 #[.val (.long q1), .second, .val (.long q2), .second, .val (.long q3), .second, .val (.long q4), .second, .val (.long q5), .second, .val (.ref b6), .val (.long (q2 + q3)), .second, .val (.long ((q2 + q3) + q4)), .second, .val (.long (((q2 + q3) + q4) + q5)), .second, .val (.int ((0 : Int32) + (1 : Int32))), .val (.int (own_r1 q1 q2 q3)), .val (.int (own_r2 q1 q2 q3 q4)), .val (.int (own_r3 q1 q2 q3 q4 q5)), .val (.int (1 : Int32)), .unset, .unset, .unset, .unset, .unset, .unset, .unset, .unset, .unset, .unset] [(.int (0 : Int32))])) _
    refine XS.istore X11.here hx rfl (hb hby at_69) rfl (l' := #[.val (.long q1), .second, .val (.long q2), .second, .val (.long q3), .second, .val (.long q4), .second, .val (.long q5), .second, .val (.ref b6), .val (.long (q2 + q3)), .second, .val (.long ((q2 + q3) + q4)), .second, .val (.long (((q2 + q3) + q4) + q5)), .second, .val (.int ((0 : Int32) + (1 : Int32))), .val (.int (own_r1 q1 q2 q3)), .val (.int (own_r2 q1 q2 q3 q4)), .val (.int (own_r3 q1 q2 q3 q4 q5)), .val (.int (1 : Int32)), .val (.int (0 : Int32)), .unset, .unset, .unset, .unset, .unset, .unset, .unset, .unset, .unset]) rfl ?_
    show Steps p.tables e below (T11.setTop (mkF m 71 #[.val (.long q1), .second, .val (.long q2), .second, .val (.long q3), .second, .val (.long q4), .second, .val (.long q5), .second, .val (.ref b6), .val (.long (q2 + q3)), .second, .val (.long ((q2 + q3) + q4)), .second, .val (.long (((q2 + q3) + q4) + q5)), .second, .val (.int ((0 : Int32) + (1 : Int32))), .val (.int (own_r1 q1 q2 q3)), .val (.int (own_r2 q1 q2 q3 q4)), .val (.int (own_r3 q1 q2 q3 q4 q5)), .val (.int (1 : Int32)), .val (.int (0 : Int32)), .unset, .unset, .unset, .unset, .unset, .unset, .unset, .unset, .unset] [])) _
    refine own_j71 X11 hx hby _ ?_
    show Steps p.tables e below (T11.setTop (mkF m 86 #[.val (.long q1), .second, .val (.long q2), .second, .val (.long q3), .second, .val (.long q4), .second, .val (.long q5), .second, .val (.ref b6), .val (.long (q2 + q3)), .second, .val (.long ((q2 + q3) + q4)), .second, .val (.long (((q2 + q3) + q4) + q5)), .second, .val (.int ((0 : Int32) + (1 : Int32))), .val (.int (own_r1 q1 q2 q3)), .val (.int (own_r2 q1 q2 q3 q4)), .val (.int (own_r3 q1 q2 q3 q4 q5)), .val (.int (1 : Int32)), .val (.int (0 : Int32)), .unset, .unset, .unset, .unset, .unset, .unset, .unset, .unset, .unset] [(.int (own_e1 q1 q3))])) _
    refine XS.istore X11.here hx rfl (hb hby at_86) rfl (l' := #[.val (.long q1), .second, .val (.long q2), .second, .val (.long q3), .second, .val (.long q4), .second, .val (.long q5), .second, .val (.ref b6), .val (.long (q2 + q3)), .second, .val (.long ((q2 + q3) + q4)), .second, .val (.long (((q2 + q3) + q4) + q5)), .second, .val (.int ((0 : Int32) + (1 : Int32))), .val (.int (own_r1 q1 q2 q3)), .val (.int (own_r2 q1 q2 q3 q4)), .val (.int (own_r3 q1 q2 q3 q4 q5)), .val (.int (1 : Int32)), .val (.int (0 : Int32)), .val (.int (own_e1 q1 q3)), .unset, .unset, .unset, .unset, .unset, .unset, .unset, .unset]) rfl ?_
    show Steps p.tables e below (T11.setTop (mkF m 88 #[.val (.long q1), .second, .val (.long q2), .second, .val (.long q3), .second, .val (.long q4), .second, .val (.long q5), .second, .val (.ref b6), .val (.long (q2 + q3)), .second, .val (.long ((q2 + q3) + q4)), .second, .val (.long (((q2 + q3) + q4) + q5)), .second, .val (.int ((0 : Int32) + (1 : Int32))), .val (.int (own_r1 q1 q2 q3)), .val (.int (own_r2 q1 q2 q3 q4)), .val (.int (own_r3 q1 q2 q3 q4 q5)), .val (.int (1 : Int32)), .val (.int (0 : Int32)), .val (.int (own_e1 q1 q3)), .unset, .unset, .unset, .unset, .unset, .unset, .unset, .unset] [])) _
    refine own_j88 X11 hx hby _ ?_
    show Steps p.tables e below (T11.setTop (mkF m 99 #[.val (.long q1), .second, .val (.long q2), .second, .val (.long q3), .second, .val (.long q4), .second, .val (.long q5), .second, .val (.ref b6), .val (.long (q2 + q3)), .second, .val (.long ((q2 + q3) + q4)), .second, .val (.long (((q2 + q3) + q4) + q5)), .second, .val (.int ((0 : Int32) + (1 : Int32))), .val (.int (own_r1 q1 q2 q3)), .val (.int (own_r2 q1 q2 q3 q4)), .val (.int (own_r3 q1 q2 q3 q4 q5)), .val (.int (1 : Int32)), .val (.int (0 : Int32)), .val (.int (own_e1 q1 q3)), .unset, .unset, .unset, .unset, .unset, .unset, .unset, .unset] [(.int (own_l1 q1 q3))])) _
    refine XS.istore X11.here hx rfl (hb hby at_99) rfl (l' := #[.val (.long q1), .second, .val (.long q2), .second, .val (.long q3), .second, .val (.long q4), .second, .val (.long q5), .second, .val (.ref b6), .val (.long (q2 + q3)), .second, .val (.long ((q2 + q3) + q4)), .second, .val (.long (((q2 + q3) + q4) + q5)), .second, .val (.int ((0 : Int32) + (1 : Int32))), .val (.int (own_r1 q1 q2 q3)), .val (.int (own_r2 q1 q2 q3 q4)), .val (.int (own_r3 q1 q2 q3 q4 q5)), .val (.int (1 : Int32)), .val (.int (0 : Int32)), .val (.int (own_e1 q1 q3)), .val (.int (own_l1 q1 q3)), .unset, .unset, .unset, .unset, .unset, .unset, .unset]) rfl ?_
    show Steps p.tables e below (T11.setTop (mkF m 101 #[.val (.long q1), .second, .val (.long q2), .second, .val (.long q3), .second, .val (.long q4), .second, .val (.long q5), .second, .val (.ref b6), .val (.long (q2 + q3)), .second, .val (.long ((q2 + q3) + q4)), .second, .val (.long (((q2 + q3) + q4) + q5)), .second, .val (.int ((0 : Int32) + (1 : Int32))), .val (.int (own_r1 q1 q2 q3)), .val (.int (own_r2 q1 q2 q3 q4)), .val (.int (own_r3 q1 q2 q3 q4 q5)), .val (.int (1 : Int32)), .val (.int (0 : Int32)), .val (.int (own_e1 q1 q3)), .val (.int (own_l1 q1 q3)), .unset, .unset, .unset, .unset, .unset, .unset, .unset] [])) _
    refine own_j101 X11 hx hby _ ?_
    show Steps p.tables e below (T11.setTop (mkF m 117 #[.val (.long q1), .second, .val (.long q2), .second, .val (.long q3), .second, .val (.long q4), .second, .val (.long q5), .second, .val (.ref b6), .val (.long (q2 + q3)), .second, .val (.long ((q2 + q3) + q4)), .second, .val (.long (((q2 + q3) + q4) + q5)), .second, .val (.int ((0 : Int32) + (1 : Int32))), .val (.int (own_r1 q1 q2 q3)), .val (.int (own_r2 q1 q2 q3 q4)), .val (.int (own_r3 q1 q2 q3 q4 q5)), .val (.int (1 : Int32)), .val (.int (0 : Int32)), .val (.int (own_e1 q1 q3)), .val (.int (own_l1 q1 q3)), .unset, .unset, .unset, .unset, .unset, .unset, .unset] [(.long (own_el2 q1 q3 q4))])) _
    refine XS.lstore X11.here hx rfl (hb hby at_117) rfl (l' := #[.val (.long q1), .second, .val (.long q2), .second, .val (.long q3), .second, .val (.long q4), .second, .val (.long q5), .second, .val (.ref b6), .val (.long (q2 + q3)), .second, .val (.long ((q2 + q3) + q4)), .second, .val (.long (((q2 + q3) + q4) + q5)), .second, .val (.int ((0 : Int32) + (1 : Int32))), .val (.int (own_r1 q1 q2 q3)), .val (.int (own_r2 q1 q2 q3 q4)), .val (.int (own_r3 q1 q2 q3 q4 q5)), .val (.int (1 : Int32)), .val (.int (0 : Int32)), .val (.int (own_e1 q1 q3)), .val (.int (own_l1 q1 q3)), .val (.long (own_el2 q1 q3 q4)), .second, .unset, .unset, .unset, .unset, .unset]) rfl ?_
    show Steps p.tables e below (T11.setTop (mkF m 119 #[.val (.long q1), .second, .val (.long q2), .second, .val (.long q3), .second, .val (.long q4), .second, .val (.long q5), .second, .val (.ref b6), .val (.long (q2 + q3)), .second, .val (.long ((q2 + q3) + q4)), .second, .val (.long (((q2 + q3) + q4) + q5)), .second, .val (.int ((0 : Int32) + (1 : Int32))), .val (.int (own_r1 q1 q2 q3)), .val (.int (own_r2 q1 q2 q3 q4)), .val (.int (own_r3 q1 q2 q3 q4 q5)), .val (.int (1 : Int32)), .val (.int (0 : Int32)), .val (.int (own_e1 q1 q3)), .val (.int (own_l1 q1 q3)), .val (.long (own_el2 q1 q3 q4)), .second, .unset, .unset, .unset, .unset, .unset] [])) _
    refine own_j119 X11 hx hby _ ?_
    show Steps p.tables e below (T11.setTop (mkF m 134 #[.val (.long q1), .second, .val (.long q2), .second, .val (.long q3), .second, .val (.long q4), .second, .val (.long q5), .second, .val (.ref b6), .val (.long (q2 + q3)), .second, .val (.long ((q2 + q3) + q4)), .second, .val (.long (((q2 + q3) + q4) + q5)), .second, .val (.int ((0 : Int32) + (1 : Int32))), .val (.int (own_r1 q1 q2 q3)), .val (.int (own_r2 q1 q2 q3 q4)), .val (.int (own_r3 q1 q2 q3 q4 q5)), .val (.int (1 : Int32)), .val (.int (0 : Int32)), .val (.int (own_e1 q1 q3)), .val (.int (own_l1 q1 q3)), .val (.long (own_el2 q1 q3 q4)), .second, .unset, .unset, .unset, .unset, .unset] [(.int (own_e2 q1 q3 q4))])) _
    refine XS.istore X11.here hx rfl (hb hby at_134) rfl (l' := #[.val (.long q1), .second, .val (.long q2), .second, .val (.long q3), .second, .val (.long q4), .second, .val (.long q5), .second, .val (.ref b6), .val (.long (q2 + q3)), .second, .val (.long ((q2 + q3) + q4)), .second, .val (.long (((q2 + q3) + q4) + q5)), .second, .val (.int ((0 : Int32) + (1 : Int32))), .val (.int (own_r1 q1 q2 q3)), .val (.int (own_r2 q1 q2 q3 q4)), .val (.int (own_r3 q1 q2 q3 q4 q5)), .val (.int (1 : Int32)), .val (.int (0 : Int32)), .val (.int (own_e1 q1 q3)), .val (.int (own_l1 q1 q3)), .val (.long (own_el2 q1 q3 q4)), .second, .val (.int (own_e2 q1 q3 q4)), .unset, .unset, .unset, .unset]) rfl ?_
    show Steps p.tables e below (T11.setTop (mkF m 136 #[.val (.long q1), .second, .val (.long q2), .second, .val (.long q3), .second, .val (.long q4), .second, .val (.long q5), .second, .val (.ref b6), .val (.long (q2 + q3)), .second, .val (.long ((q2 + q3) + q4)), .second, .val (.long (((q2 + q3) + q4) + q5)), .second, .val (.int ((0 : Int32) + (1 : Int32))), .val (.int (own_r1 q1 q2 q3)), .val (.int (own_r2 q1 q2 q3 q4)), .val (.int (own_r3 q1 q2 q3 q4 q5)), .val (.int (1 : Int32)), .val (.int (0 : Int32)), .val (.int (own_e1 q1 q3)), .val (.int (own_l1 q1 q3)), .val (.long (own_el2 q1 q3 q4)), .second, .val (.int (own_e2 q1 q3 q4)), .unset, .unset, .unset, .unset] [])) _
    refine own_j136 X11 hx hby _ ?_
    show Steps p.tables e below (T11.setTop (mkF m 147 #[.val (.long q1), .second, .val (.long q2), .second, .val (.long q3), .second, .val (.long q4), .second, .val (.long q5), .second, .val (.ref b6), .val (.long (q2 + q3)), .second, .val (.long ((q2 + q3) + q4)), .second, .val (.long (((q2 + q3) + q4) + q5)), .second, .val (.int ((0 : Int32) + (1 : Int32))), .val (.int (own_r1 q1 q2 q3)), .val (.int (own_r2 q1 q2 q3 q4)), .val (.int (own_r3 q1 q2 q3 q4 q5)), .val (.int (1 : Int32)), .val (.int (0 : Int32)), .val (.int (own_e1 q1 q3)), .val (.int (own_l1 q1 q3)), .val (.long (own_el2 q1 q3 q4)), .second, .val (.int (own_e2 q1 q3 q4)), .unset, .unset, .unset, .unset] [(.int (own_l2 q1 q3 q4))])) _
    refine XS.istore X11.here hx rfl (hb hby at_147) rfl (l' := #[.val (.long q1), .second, .val (.long q2), .second, .val (.long q3), .second, .val (.long q4), .second, .val (.long q5), .second, .val (.ref b6), .val (.long (q2 + q3)), .second, .val (.long ((q2 + q3) + q4)), .second, .val (.long (((q2 + q3) + q4) + q5)), .second, .val (.int ((0 : Int32) + (1 : Int32))), .val (.int (own_r1 q1 q2 q3)), .val (.int (own_r2 q1 q2 q3 q4)), .val (.int (own_r3 q1 q2 q3 q4 q5)), .val (.int (1 : Int32)), .val (.int (0 : Int32)), .val (.int (own_e1 q1 q3)), .val (.int (own_l1 q1 q3)), .val (.long (own_el2 q1 q3 q4)), .second, .val (.int (own_e2 q1 q3 q4)), .val (.int (own_l2 q1 q3 q4)), .unset, .unset, .unset]) rfl ?_
    show Steps p.tables e below (T11.setTop (mkF m 149 #[.val (.long q1), .second, .val (.long q2), .second, .val (.long q3), .second, .val (.long q4), .second, .val (.long q5), .second, .val (.ref b6), .val (.long (q2 + q3)), .second, .val (.long ((q2 + q3) + q4)), .second, .val (.long (((q2 + q3) + q4) + q5)), .second, .val (.int ((0 : Int32) + (1 : Int32))), .val (.int (own_r1 q1 q2 q3)), .val (.int (own_r2 q1 q2 q3 q4)), .val (.int (own_r3 q1 q2 q3 q4 q5)), .val (.int (1 : Int32)), .val (.int (0 : Int32)), .val (.int (own_e1 q1 q3)), .val (.int (own_l1 q1 q3)), .val (.long (own_el2 q1 q3 q4)), .second, .val (.int (own_e2 q1 q3 q4)), .val (.int (own_l2 q1 q3 q4)), .unset, .unset, .unset] [])) _
    refine own_j149 X11 hx hby _ ?_
    show Steps p.tables e below (T11.setTop (mkF m 188 #[.val (.long q1), .second, .val (.long q2), .second, .val (.long q3), .second, .val (.long q4), .second, .val (.long q5), .second, .val (.ref b6), .val (.long (q2 + q3)), .second, .val (.long ((q2 + q3) + q4)), .second, .val (.long (((q2 + q3) + q4) + q5)), .second, .val (.int ((0 : Int32) + (1 : Int32))), .val (.int (own_r1 q1 q2 q3)), .val (.int (own_r2 q1 q2 q3 q4)), .val (.int (own_r3 q1 q2 q3 q4 q5)), .val (.int (1 : Int32)), .val (.int (0 : Int32)), .val (.int (own_e1 q1 q3)), .val (.int (own_l1 q1 q3)), .val (.long (own_el2 q1 q3 q4)), .second, .val (.int (own_e2 q1 q3 q4)), .val (.int (own_l2 q1 q3 q4)), .val (.long (own_el3 q1 q3 q4 q5)), .second, .unset] [])) _
    refine own_j188 X11 hx hby _ ?_
    show Steps p.tables e below (T11.setTop (mkF m 203 #[.val (.long q1), .second, .val (.long q2), .second, .val (.long q3), .second, .val (.long q4), .second, .val (.long q5), .second, .val (.ref b6), .val (.long (q2 + q3)), .second, .val (.long ((q2 + q3) + q4)), .second, .val (.long (((q2 + q3) + q4) + q5)), .second, .val (.int ((0 : Int32) + (1 : Int32))), .val (.int (own_r1 q1 q2 q3)), .val (.int (own_r2 q1 q2 q3 q4)), .val (.int (own_r3 q1 q2 q3 q4 q5)), .val (.int (1 : Int32)), .val (.int (0 : Int32)), .val (.int (own_e1 q1 q3)), .val (.int (own_l1 q1 q3)), .val (.long (own_el2 q1 q3 q4)), .second, .val (.int (own_e2 q1 q3 q4)), .val (.int (own_l2 q1 q3 q4)), .val (.long (own_el3 q1 q3 q4 q5)), .second, .unset] [(.int (own_e3 q1 q3 q4 q5))])) _
    refine XS.istore X11.here hx rfl (hb hby at_203) rfl (l' := #[.val (.long q1), .second, .val (.long q2), .second, .val (.long q3), .second, .val (.long q4), .second, .val (.long q5), .second, .val (.ref b6), .val (.long (q2 + q3)), .second, .val (.long ((q2 + q3) + q4)), .second, .val (.long (((q2 + q3) + q4) + q5)), .second, .val (.int ((0 : Int32) + (1 : Int32))), .val (.int (own_r1 q1 q2 q3)), .val (.int (own_r2 q1 q2 q3 q4)), .val (.int (own_r3 q1 q2 q3 q4 q5)), .val (.int (1 : Int32)), .val (.int (0 : Int32)), .val (.int (own_e1 q1 q3)), .val (.int (own_l1 q1 q3)), .val (.long (own_el2 q1 q3 q4)), .second, .val (.int (own_e2 q1 q3 q4)), .val (.int (own_l2 q1 q3 q4)), .val (.long (own_el3 q1 q3 q4 q5)), .second, .val (.int (own_e3 q1 q3 q4 q5))]) rfl ?_
    show Steps p.tables e below (T11.setTop (mkF m 205 #[.val (.long q1), .second, .val (.long q2), .second, .val (.long q3), .second, .val (.long q4), .second, .val (.long q5), .second, .val (.ref b6), .val (.long (q2 + q3)), .second, .val (.long ((q2 + q3) + q4)), .second, .val (.long (((q2 + q3) + q4) + q5)), .second, .val (.int ((0 : Int32) + (1 : Int32))), .val (.int (own_r1 q1 q2 q3)), .val (.int (own_r2 q1 q2 q3 q4)), .val (.int (own_r3 q1 q2 q3 q4 q5)), .val (.int (1 : Int32)), .val (.int (0 : Int32)), .val (.int (own_e1 q1 q3)), .val (.int (own_l1 q1 q3)), .val (.long (own_el2 q1 q3 q4)), .second, .val (.int (own_e2 q1 q3 q4)), .val (.int (own_l2 q1 q3 q4)), .val (.long (own_el3 q1 q3 q4 q5)), .second, .val (.int (own_e3 q1 q3 q4 q5))] [])) _
    refine XS.iload X11.here hx rfl (hb hby at_205) rfl ?_
    show Steps p.tables e below (T11.setTop (mkF m 207 #[.val (.long q1), .second, .val (.long q2), .second, .val (.long q3), .second, .val (.long q4), .second, .val (.long q5), .second, .val (.ref b6), .val (.long (q2 + q3)), .second, .val (.long ((q2 + q3) + q4)), .second, .val (.long (((q2 + q3) + q4) + q5)), .second, .val (.int ((0 : Int32) + (1 : Int32))), .val (.int (own_r1 q1 q2 q3)), .val (.int (own_r2 q1 q2 q3 q4)), .val (.int (own_r3 q1 q2 q3 q4 q5)), .val (.int (1 : Int32)), .val (.int (0 : Int32)), .val (.int (own_e1 q1 q3)), .val (.int (own_l1 q1 q3)), .val (.long (own_el2 q1 q3 q4)), .second, .val (.int (own_e2 q1 q3 q4)), .val (.int (own_l2 q1 q3 q4)), .val (.long (own_el3 q1 q3 q4 q5)), .second, .val (.int (own_e3 q1 q3 q4 q5))] [(.int ((0 : Int32) + (1 : Int32)))])) _
    refine XS.iload X11.here hx rfl (hb hby at_207) rfl ?_
    show Steps p.tables e below (T11.setTop (mkF m 209 #[.val (.long q1), .second, .val (.long q2), .second, .val (.long q3), .second, .val (.long q4), .second, .val (.long q5), .second, .val (.ref b6), .val (.long (q2 + q3)), .second, .val (.long ((q2 + q3) + q4)), .second, .val (.long (((q2 + q3) + q4) + q5)), .second, .val (.int ((0 : Int32) + (1 : Int32))), .val (.int (own_r1 q1 q2 q3)), .val (.int (own_r2 q1 q2 q3 q4)), .val (.int (own_r3 q1 q2 q3 q4 q5)), .val (.int (1 : Int32)), .val (.int (0 : Int32)), .val (.int (own_e1 q1 q3)), .val (.int (own_l1 q1 q3)), .val (.long (own_el2 q1 q3 q4)), .second, .val (.int (own_e2 q1 q3 q4)), .val (.int (own_l2 q1 q3 q4)), .val (.long (own_el3 q1 q3 q4 q5)), .second, .val (.int (own_e3 q1 q3 q4 q5))] [(.int (1 : Int32)), (.int ((0 : Int32) + (1 : Int32)))])) _
    refine XS.icmpNo X11.here hx rfl (hb hby at_209) rfl (teq (rfl : ((0 : Int32) + (1 : Int32)) = (1 : Int32))).2 ?_
    show Steps p.tables e below (T11.setTop (mkF m 212 #[.val (.long q1), .second, .val (.long q2), .second, .val (.long q3), .second, .val (.long q4), .second, .val (.long q5), .second, .val (.ref b6), .val (.long (q2 + q3)), .second, .val (.long ((q2 + q3) + q4)), .second, .val (.long (((q2 + q3) + q4) + q5)), .second, .val (.int ((0 : Int32) + (1 : Int32))), .val (.int (own_r1 q1 q2 q3)), .val (.int (own_r2 q1 q2 q3 q4)), .val (.int (own_r3 q1 q2 q3 q4 q5)), .val (.int (1 : Int32)), .val (.int (0 : Int32)), .val (.int (own_e1 q1 q3)), .val (.int (own_l1 q1 q3)), .val (.long (own_el2 q1 q3 q4)), .second, .val (.int (own_e2 q1 q3 q4)), .val (.int (own_l2 q1 q3 q4)), .val (.long (own_el3 q1 q3 q4 q5)), .second, .val (.int (own_e3 q1 q3 q4 q5))] [])) _
    refine XS.iload X11.here hx rfl (hb hby at_212) rfl ?_
    show Steps p.tables e below (T11.setTop (mkF m 214 #[.val (.long q1), .second, .val (.long q2), .second, .val (.long q3), .second, .val (.long q4), .second, .val (.long q5), .second, .val (.ref b6), .val (.long (q2 + q3)), .second, .val (.long ((q2 + q3) + q4)), .second, .val (.long (((q2 + q3) + q4) + q5)), .second, .val (.int ((0 : Int32) + (1 : Int32))), .val (.int (own_r1 q1 q2 q3)), .val (.int (own_r2 q1 q2 q3 q4)), .val (.int (own_r3 q1 q2 q3 q4 q5)), .val (.int (1 : Int32)), .val (.int (0 : Int32)), .val (.int (own_e1 q1 q3)), .val (.int (own_l1 q1 q3)), .val (.long (own_el2 q1 q3 q4)), .second, .val (.int (own_e2 q1 q3 q4)), .val (.int (own_l2 q1 q3 q4)), .val (.long (own_el3 q1 q3 q4 q5)), .second, .val (.int (own_e3 q1 q3 q4 q5))] [(.int (own_r1 q1 q2 q3))])) _
    refine XS.iload X11.here hx rfl (hb hby at_214) rfl ?_
    show Steps p.tables e below (T11.setTop (mkF m 216 #[.val (.long q1), .second, .val (.long q2), .second, .val (.long q3), .second, .val (.long q4), .second, .val (.long q5), .second, .val (.ref b6), .val (.long (q2 + q3)), .second, .val (.long ((q2 + q3) + q4)), .second, .val (.long (((q2 + q3) + q4) + q5)), .second, .val (.int ((0 : Int32) + (1 : Int32))), .val (.int (own_r1 q1 q2 q3)), .val (.int (own_r2 q1 q2 q3 q4)), .val (.int (own_r3 q1 q2 q3 q4 q5)), .val (.int (1 : Int32)), .val (.int (0 : Int32)), .val (.int (own_e1 q1 q3)), .val (.int (own_l1 q1 q3)), .val (.long (own_el2 q1 q3 q4)), .second, .val (.int (own_e2 q1 q3 q4)), .val (.int (own_l2 q1 q3 q4)), .val (.long (own_el3 q1 q3 q4 q5)), .second, .val (.int (own_e3 q1 q3 q4 q5))] [(.int (own_e1 q1 q3)), (.int (own_r1 q1 q2 q3))])) _
    refine XS.icmpNo X11.here hx rfl (hb hby at_216) rfl (teq ((own_law q1 q2 q3 q4 q5).1 : (own_r1 q1 q2 q3) = (own_e1 q1 q3))).2 ?_
    show Steps p.tables e below (T11.setTop (mkF m 219 #[.val (.long q1), .second, .val (.long q2), .second, .val (.long q3), .second, .val (.long q4), .second, .val (.long q5), .second, .val (.ref b6), .val (.long (q2 + q3)), .second, .val (.long ((q2 + q3) + q4)), .second, .val (.long (((q2 + q3) + q4) + q5)), .second, .val (.int ((0 : Int32) + (1 : Int32))), .val (.int (own_r1 q1 q2 q3)), .val (.int (own_r2 q1 q2 q3 q4)), .val (.int (own_r3 q1 q2 q3 q4 q5)), .val (.int (1 : Int32)), .val (.int (0 : Int32)), .val (.int (own_e1 q1 q3)), .val (.int (own_l1 q1 q3)), .val (.long (own_el2 q1 q3 q4)), .second, .val (.int (own_e2 q1 q3 q4)), .val (.int (own_l2 q1 q3 q4)), .val (.long (own_el3 q1 q3 q4 q5)), .second, .val (.int (own_e3 q1 q3 q4 q5))] [])) _
    refine XS.iload X11.here hx rfl (hb hby at_219) rfl ?_
    show Steps p.tables e below (T11.setTop (mkF m 221 #[.val (.long q1), .second, .val (.long q2), .second, .val (.long q3), .second, .val (.long q4), .second, .val (.long q5), .second, .val (.ref b6), .val (.long (q2 + q3)), .second, .val (.long ((q2 + q3) + q4)), .second, .val (.long (((q2 + q3) + q4) + q5)), .second, .val (.int ((0 : Int32) + (1 : Int32))), .val (.int (own_r1 q1 q2 q3)), .val (.int (own_r2 q1 q2 q3 q4)), .val (.int (own_r3 q1 q2 q3 q4 q5)), .val (.int (1 : Int32)), .val (.int (0 : Int32)), .val (.int (own_e1 q1 q3)), .val (.int (own_l1 q1 q3)), .val (.long (own_el2 q1 q3 q4)), .second, .val (.int (own_e2 q1 q3 q4)), .val (.int (own_l2 q1 q3 q4)), .val (.long (own_el3 q1 q3 q4 q5)), .second, .val (.int (own_e3 q1 q3 q4 q5))] [(.int (own_r2 q1 q2 q3 q4))])) _
    refine XS.iload X11.here hx rfl (hb hby at_221) rfl ?_
    show Steps p.tables e below (T11.setTop (mkF m 223 #[.val (.long q1), .second, .val (.long q2), .second, .val (.long q3), .second, .val (.long q4), .second, .val (.long q5), .second, .val (.ref b6), .val (.long (q2 + q3)), .second, .val (.long ((q2 + q3) + q4)), .second, .val (.long (((q2 + q3) + q4) + q5)), .second, .val (.int ((0 : Int32) + (1 : Int32))), .val (.int (own_r1 q1 q2 q3)), .val (.int (own_r2 q1 q2 q3 q4)), .val (.int (own_r3 q1 q2 q3 q4 q5)), .val (.int (1 : Int32)), .val (.int (0 : Int32)), .val (.int (own_e1 q1 q3)), .val (.int (own_l1 q1 q3)), .val (.long (own_el2 q1 q3 q4)), .second, .val (.int (own_e2 q1 q3 q4)), .val (.int (own_l2 q1 q3 q4)), .val (.long (own_el3 q1 q3 q4 q5)), .second, .val (.int (own_e3 q1 q3 q4 q5))] [(.int (own_e2 q1 q3 q4)), (.int (own_r2 q1 q2 q3 q4))])) _
    refine XS.icmpNo X11.here hx rfl (hb hby at_223) rfl (teq ((own_law q1 q2 q3 q4 q5).2.1 : (own_r2 q1 q2 q3 q4) = (own_e2 q1 q3 q4))).2 ?_
    show Steps p.tables e below (T11.setTop (mkF m 226 #[.val (.long q1), .second, .val (.long q2), .second, .val (.long q3), .second, .val (.long q4), .second, .val (.long q5), .second, .val (.ref b6), .val (.long (q2 + q3)), .second, .val (.long ((q2 + q3) + q4)), .second, .val (.long (((q2 + q3) + q4) + q5)), .second, .val (.int ((0 : Int32) + (1 : Int32))), .val (.int (own_r1 q1 q2 q3)), .val (.int (own_r2 q1 q2 q3 q4)), .val (.int (own_r3 q1 q2 q3 q4 q5)), .val (.int (1 : Int32)), .val (.int (0 : Int32)), .val (.int (own_e1 q1 q3)), .val (.int (own_l1 q1 q3)), .val (.long (own_el2 q1 q3 q4)), .second, .val (.int (own_e2 q1 q3 q4)), .val (.int (own_l2 q1 q3 q4)), .val (.long (own_el3 q1 q3 q4 q5)), .second, .val (.int (own_e3 q1 q3 q4 q5))] [])) _
    refine XS.iload X11.here hx rfl (hb hby at_226) rfl ?_
    show Steps p.tables e below (T11.setTop (mkF m 228 #[.val (.long q1), .second, .val (.long q2), .second, .val (.long q3), .second, .val (.long q4), .second, .val (.long q5), .second, .val (.ref b6), .val (.long (q2 + q3)), .second, .val (.long ((q2 + q3) + q4)), .second, .val (.long (((q2 + q3) + q4) + q5)), .second, .val (.int ((0 : Int32) + (1 : Int32))), .val (.int (own_r1 q1 q2 q3)), .val (.int (own_r2 q1 q2 q3 q4)), .val (.int (own_r3 q1 q2 q3 q4 q5)), .val (.int (1 : Int32)), .val (.int (0 : Int32)), .val (.int (own_e1 q1 q3)), .val (.int (own_l1 q1 q3)), .val (.long (own_el2 q1 q3 q4)), .second, .val (.int (own_e2 q1 q3 q4)), .val (.int (own_l2 q1 q3 q4)), .val (.long (own_el3 q1 q3 q4 q5)), .second, .val (.int (own_e3 q1 q3 q4 q5))] [(.int (own_r3 q1 q2 q3 q4 q5))])) _
    refine XS.iload X11.here hx rfl (hb hby at_228) rfl ?_
    show Steps p.tables e below (T11.setTop (mkF m 230 #[.val (.long q1), .second, .val (.long q2), .second, .val (.long q3), .second, .val (.long q4), .second, .val (.long q5), .second, .val (.ref b6), .val (.long (q2 + q3)), .second, .val (.long ((q2 + q3) + q4)), .second, .val (.long (((q2 + q3) + q4) + q5)), .second, .val (.int ((0 : Int32) + (1 : Int32))), .val (.int (own_r1 q1 q2 q3)), .val (.int (own_r2 q1 q2 q3 q4)), .val (.int (own_r3 q1 q2 q3 q4 q5)), .val (.int (1 : Int32)), .val (.int (0 : Int32)), .val (.int (own_e1 q1 q3)), .val (.int (own_l1 q1 q3)), .val (.long (own_el2 q1 q3 q4)), .second, .val (.int (own_e2 q1 q3 q4)), .val (.int (own_l2 q1 q3 q4)), .val (.long (own_el3 q1 q3 q4 q5)), .second, .val (.int (own_e3 q1 q3 q4 q5))] [(.int (own_e3 q1 q3 q4 q5)), (.int (own_r3 q1 q2 q3 q4 q5))])) _
    refine XS.icmpNo X11.here hx rfl (hb hby at_230) rfl (teq ((own_law q1 q2 q3 q4 q5).2.2 : (own_r3 q1 q2 q3 q4 q5) = (own_e3 q1 q3 q4 q5))).2 ?_
    show Steps p.tables e below (T11.setTop (mkF m 233 #[.val (.long q1), .second, .val (.long q2), .second, .val (.long q3), .second, .val (.long q4), .second, .val (.long q5), .second, .val (.ref b6), .val (.long (q2 + q3)), .second, .val (.long ((q2 + q3) + q4)), .second, .val (.long (((q2 + q3) + q4) + q5)), .second, .val (.int ((0 : Int32) + (1 : Int32))), .val (.int (own_r1 q1 q2 q3)), .val (.int (own_r2 q1 q2 q3 q4)), .val (.int (own_r3 q1 q2 q3 q4 q5)), .val (.int (1 : Int32)), .val (.int (0 : Int32)), .val (.int (own_e1 q1 q3)), .val (.int (own_l1 q1 q3)), .val (.long (own_el2 q1 q3 q4)), .second, .val (.int (own_e2 q1 q3 q4)), .val (.int (own_l2 q1 q3 q4)), .val (.long (own_el3 q1 q3 q4 q5)), .second, .val (.int (own_e3 q1 q3 q4 q5))] [])) _
    refine XS.iconst X11.here hx rfl (hb hby at_233) ?_
    show Steps p.tables e below (T11.setTop (mkF m 234 #[.val (.long q1), .second, .val (.long q2), .second, .val (.long q3), .second, .val (.long q4), .second, .val (.long q5), .second, .val (.ref b6), .val (.long (q2 + q3)), .second, .val (.long ((q2 + q3) + q4)), .second, .val (.long (((q2 + q3) + q4) + q5)), .second, .val (.int ((0 : Int32) + (1 : Int32))), .val (.int (own_r1 q1 q2 q3)), .val (.int (own_r2 q1 q2 q3 q4)), .val (.int (own_r3 q1 q2 q3 q4 q5)), .val (.int (1 : Int32)), .val (.int (0 : Int32)), .val (.int (own_e1 q1 q3)), .val (.int (own_l1 q1 q3)), .val (.long (own_el2 q1 q3 q4)), .second, .val (.int (own_e2 q1 q3 q4)), .val (.int (own_l2 q1 q3 q4)), .val (.long (own_el3 q1 q3 q4 q5)), .second, .val (.int (own_e3 q1 q3 q4 q5))] [(.int (1 : Int32))])) _
    refine XS.goto X11.here hx rfl (pc0 := 234) (pc' := 238) rfl (hb hby at_234) (by decide) (by decide) ?_
    show Steps p.tables e below (T11.setTop (mkF m 238 #[.val (.long q1), .second, .val (.long q2), .second, .val (.long q3), .second, .val (.long q4), .second, .val (.long q5), .second, .val (.ref b6), .val (.long (q2 + q3)), .second, .val (.long ((q2 + q3) + q4)), .second, .val (.long (((q2 + q3) + q4) + q5)), .second, .val (.int ((0 : Int32) + (1 : Int32))), .val (.int (own_r1 q1 q2 q3)), .val (.int (own_r2 q1 q2 q3 q4)), .val (.int (own_r3 q1 q2 q3 q4 q5)), .val (.int (1 : Int32)), .val (.int (0 : Int32)), .val (.int (own_e1 q1 q3)), .val (.int (own_l1 q1 q3)), .val (.long (own_el2 q1 q3 q4)), .second, .val (.int (own_e2 q1 q3 q4)), .val (.int (own_l2 q1 q3 q4)), .val (.long (own_el3 q1 q3 q4 q5)), .second, .val (.int (own_e3 q1 q3 q4 q5))] [(.int (1 : Int32))])) _
    exact retN X11 hx (t := .boolean) Bd.returns (by simp) (hb hby at_238) hr
  · show Q0 Z q1 q2 q3 q4 q5 h0 n0 _ T11.heap _
    exact ⟨rfl, N11⟩
set_option maxRecDepth 65536 in
set_option maxHeartbeats 40000000 in
theorem comes_1 {Post : Tables → Env → Array Value → State → Outcome → State → Prop} (hpost : ∀ tb e args s v u, (limb_1_1.after args s (.returned v) u = true ∧ limb_1_2.after args s (.returned v) u = true ∧ True) → FrameEnd s (.returned v) u (Jvm.fieldLocs frame_1_writes args s ++ Jvm.arrayLocs frame_1_arrays args s ++ Jvm.staticLocs frame_1_statics s) 16 128 → Post tb e args s (.returned v) u) :
    ArmFor flags0 classFile x code maxLocals ret World_1 tables_1 room_1 Calls_1 rest_1 Pre_1 Post := by
  intro l hfl _ _ p e ha hc hk s m args below hf hA hF happ hP
  obtain ⟨hcalls, hrest, hpre⟩ := hP
  obtain ⟨-, -, -, hnamed, -, -, -, hat⟩ := (Spec.applies_iff hf).mp happ
  obtain ⟨hg, hn⟩ := and_e (Cond.before_iff.mp (show (Jvm.Cond.and given_1 narrow_1).before args s = true from hpre))
  obtain ⟨g12, g13⟩ := and_e hg
  obtain ⟨g14, g15⟩ := and_e g13
  obtain ⟨g16, g17⟩ := and_e g15
  obtain ⟨g18, g19⟩ := and_e g17
  obtain ⟨g20, g21⟩ := and_e g19
  obtain ⟨w0, w1, w2, w3, w4, rfl⟩ : ∃ w0 w1 w2 w3 w4 : Value, args = #[w0, w1, w2, w3, w4] := by
    have hs : args.size = 5 := by simpa [Cond.value, given_1] using g12
    obtain ⟨L⟩ := args
    match L, hs with
    | [w0, w1, w2, w3, w4], _ => exact ⟨w0, w1, w2, w3, w4, rfl⟩
  have hw := fun d (hd : d ∈ tables_1) => atoms_spec (ws := Jvm.Cond.code x code maxLocals ret :: tables_1) hat d (List.mem_cons_of_mem _ hd)
  have hfit : Fit s := fun {y c} hc i hi => by
    obtain ⟨ha, rfl⟩ := Array.getElem?_eq_some_iff.mp hc
    have q := List.all_eq_true.mp ((Array.all_eq_true_iff_forall_mem.mp hF) _ (Array.getElem_mem ha)) i (List.mem_range.mpr hi)
    simpa [Array.getElem?_eq_getElem hi] using q
  obtain ⟨i0, ei0⟩ := isL_v g14
  obtain rfl : w0 = (.long i0) := Option.some.inj ei0
  obtain ⟨i1, ei1⟩ := isL_v g16
  obtain rfl : w1 = (.long i1) := Option.some.inj ei1
  obtain ⟨i2, ei2⟩ := isL_v g18
  obtain rfl : w2 = (.long i2) := Option.some.inj ei2
  obtain ⟨i3, ei3⟩ := isL_v g20
  obtain rfl : w3 = (.long i3) := Option.some.inj ei3
  obtain ⟨i4, ei4⟩ := isL_v g21
  obtain rfl : w4 = (.long i4) := Option.some.inj ei4
  obtain ⟨n, o, h1, h2, h3, _, L, rfl, ⟨rfl, N⟩, hq⟩ := rm0 l s _ hw tables_1 i0 i1 i2 i3 i4 s.heap s.heap.size (Nat.le_refl _) p e ha hc hk s m _ below hf ((Spec.applies_iff_loose hf).mp happ).1 ⟨rfl, State.Warmed39.refl s, rfl⟩ trivial
  refine ⟨n, _, h1, h2, h3, hpost _ _ _ _ _ _ ⟨Cond.after_iff.mpr rfl, Cond.after_iff.mpr (eq_i res_at (Term.int_eval (1)) rfl), trivial⟩ ⟨hq.1, hq.2.1, (hq.2.2.sift fun y hy => Or.inr (N y hy)).mono (by decide) (by decide)⟩⟩
theorem main_1_1 : Claimed_1_1 := comes_1 fun _ _ _ _ _ _ h hF => ⟨h.1, hF⟩
theorem main_1_2 : Claimed_1_2 := comes_1 fun _ _ _ _ _ _ h hF => ⟨h.2.1, hF⟩
end Jvm.Pilot.@@N@@
namespace Jvm.Pilot.@@N@@
open Jvm Jvm.ClassFile Sem Op Lib Jvm.Free Jvm.Stand Jvm.Pilot.@@N@@.Jvm.D
/-! MADE BY PROGRAM (witnessworld.py) out of the Statement's table words and the real class files: 9 classes; the members and pool entries that the words name. The judged class is class 1, her method 1. -/
namespace start1
open Jvm.ClassFile
def u (s : String) : CpInfo := .utf8 (stringToUtf16 s)
/-- a pool by its gaps: so many unusable entries, then the entry; so many at the end -/
def gap : Nat → List CpInfo → List CpInfo
  | 0, r => r
  | n + 1, r => .unusable :: gap n r
def poolList (es : List (Nat × CpInfo)) (last : Nat) : List CpInfo := es.foldr (fun e r => gap e.1 (e.2 :: r)) (gap last [])
def pool (es : List (Nat × CpInfo)) (last : Nat) : Array CpInfo := ⟨poolList es last⟩
def fileOf (pool : Array CpInfo) (this : Nat) (attrs : Array Attribute := #[]) (ms : Array MethodInfo := #[]) (fl : Nat := 33) (sup : Nat := 0) (ifs : Array Nat := #[]) (fds : Array FieldInfo := #[]) : ClassFile where
  minorVersion := 0
  majorVersion := 65
  constantPool := pool
  accessFlags := fl
  thisClass := this
  superClass := sup
  interfaces := ifs
  fields := fds
  methods := ms
  attributes := attrs
def plain (name : String) (sup : Option ClassId) : Class where
  name := name
  kind := .ordinary
  loader := none
  accessFlags := 33
  super := sup
  interfaces := #[]
  cf := none
  fields := #[]
  methods := #[]
  instanceTypes := #[]
  staticTypes := #[]
  resolved := #[]
  callSites := []
  init := .initialized
  statics := none
  mirror := none

def pool0 : Array CpInfo := pool [(5, u "<init>"), (0, u "()V"), (1, .class_ 10), (1, u "java/lang/Object")] 113

def k0c0 : Code := { maxStack := 0, maxLocals := 1, code := object_method_1_code, exceptionTable := #[], attributes := #[] }
def k0m0 : Method := { name := "<init>", desc := "()V", sig := { parameters := [], returnType := none }, accessFlags := 1, code := some k0c0 }
/-- java/lang/Object -/
def k0 : Class := { plain "java/lang/Object" none with
  accessFlags := 33
  interfaces := #[]
  cf := some (fileOf pool0 8 #[] #[{ accessFlags := 1, nameIndex := 5, descriptorIndex := 6, attributes := #[] }] 33 0 #[] #[])
  fields := #[]
  methods := #[k0m0]
  instanceTypes := #[]
  staticTypes := #[]
  resolved := Array.replicate 124 none
  statics := none }

def pool1 : Array CpInfo := pool [(2, .class_ 4), (1, u "java/lang/Object"), (0, u "<init>"), (0, u "()V"), (0, .class_ 8), (0, u "com/example/tinlet/tinlet/http/LogThrottle"), (0, .methodref 7 10), (0, .nameAndType 5 11), (0, u "(J)V"), (0, .methodref 7 13), (0, .nameAndType 14 15), (0, u "count"), (0, u "(J)I"), (0, .class_ 17), (0, u "com/example/tinlet/tinlet/http/LogThrottleCountPinLaw"), (2, u "law"), (0, u "(JJJJJ)Z")] 3

def k1m0 : Method := { name := "<init>", desc := "()V", sig := { parameters := [], returnType := none }, accessFlags := 1, code := none }
def k1c1 : Code := { maxStack := 4, maxLocals := 32, code := code, exceptionTable := #[], attributes := #[] }
def k1m1 : Method := { name := "law", desc := "(JJJJJ)Z", sig := { parameters := [.long, .long, .long, .long, .long], returnType := some .boolean }, accessFlags := 9, code := some k1c1 }
/-- com/example/tinlet/tinlet/http/LogThrottleCountPinLaw -/
def k1 : Class := { plain "com/example/tinlet/tinlet/http/LogThrottleCountPinLaw" (some 0) with
  accessFlags := 49
  interfaces := #[]
  cf := some (fileOf pool1 16 #[] #[{ accessFlags := 1, nameIndex := 5, descriptorIndex := 6, attributes := #[] }, { accessFlags := 9, nameIndex := 20, descriptorIndex := 21, attributes := #[] }] 49 2 #[] #[])
  fields := #[]
  methods := #[k1m0, k1m1]
  instanceTypes := #[]
  staticTypes := #[]
  resolved := Array.replicate 25 none
  statics := none }

def pool2 : Array CpInfo := pool [(1, .methodref 2 3), (0, .class_ 4), (0, .nameAndType 5 6), (0, u "java/lang/Object"), (0, u "<init>"), (0, u "()V"), (0, .fieldref 8 9), (0, .class_ 10), (0, .nameAndType 11 12), (0, u "com/example/tinlet/tinlet/http/LogThrottle"), (0, u "intervalNanos"), (0, u "J"), (0, .fieldref 8 14), (0, .nameAndType 15 16), (0, u "occurrences"), (0, u "I"), (0, .fieldref 8 18), (0, .nameAndType 19 20), (0, u "logged"), (0, u "Z"), (0, .fieldref 8 22), (0, .nameAndType 23 12), (0, u "lastLine"), (0, u "(J)V"), (2, u "count"), (0, u "(J)I")] 3

def k2c0 : Code := { maxStack := 3, maxLocals := 3, code := prog_35_method_1_code, exceptionTable := #[], attributes := #[] }
def k2m0 : Method := { name := "<init>", desc := "(J)V", sig := { parameters := [.long], returnType := none }, accessFlags := 0, code := some k2c0 }
def k2c1 : Code := { maxStack := 4, maxLocals := 4, code := prog_35_method_2_code, exceptionTable := #[], attributes := #[] }
def k2m1 : Method := { name := "count", desc := "(J)I", sig := { parameters := [.long], returnType := some .int }, accessFlags := 0, code := some k2c1 }
/-- com/example/tinlet/tinlet/http/LogThrottle -/
def k2 : Class := { plain "com/example/tinlet/tinlet/http/LogThrottle" (some 0) with
  accessFlags := 32
  interfaces := #[]
  cf := some (fileOf pool2 8 #[] #[{ accessFlags := 0, nameIndex := 5, descriptorIndex := 24, attributes := #[] }, { accessFlags := 0, nameIndex := 27, descriptorIndex := 28, attributes := #[] }] 32 2 #[] #[{ accessFlags := 18, nameIndex := 11, descriptorIndex := 12, attributes := #[] }, { accessFlags := 2, nameIndex := 19, descriptorIndex := 20, attributes := #[] }, { accessFlags := 2, nameIndex := 23, descriptorIndex := 12, attributes := #[] }, { accessFlags := 2, nameIndex := 15, descriptorIndex := 16, attributes := #[] }])
  fields := #[{ name := "intervalNanos", type := .long, accessFlags := 18, slot := 0, constantValue := 0 }, { name := "logged", type := .boolean, accessFlags := 2, slot := 1, constantValue := 0 }, { name := "lastLine", type := .long, accessFlags := 2, slot := 2, constantValue := 0 }, { name := "occurrences", type := .int, accessFlags := 2, slot := 3, constantValue := 0 }]
  methods := #[k2m0, k2m1]
  instanceTypes := #[.long, .boolean, .long, .int]
  staticTypes := #[]
  resolved := Array.replicate 32 none
  statics := none }

def pool3 : Array CpInfo := pool [(1, u "java/lang/Cloneable"), (0, .class_ 1), (0, u "java/lang/Object"), (0, .class_ 3)] 3

/-- java/lang/Cloneable -/
def k3 : Class := { plain "java/lang/Cloneable" (some 0) with
  accessFlags := 1537
  interfaces := #[]
  cf := some (fileOf pool3 2 #[] #[] 1537 4 #[] #[])
  fields := #[]
  methods := #[]
  instanceTypes := #[]
  staticTypes := #[]
  resolved := Array.replicate 8 none
  statics := none }

def pool4 : Array CpInfo := pool [(1, u "java/io/Serializable"), (0, .class_ 1), (0, u "java/lang/Object"), (0, .class_ 3)] 3

/-- java/io/Serializable -/
def k4 : Class := { plain "java/io/Serializable" (some 0) with
  accessFlags := 1537
  interfaces := #[]
  cf := some (fileOf pool4 2 #[] #[] 1537 4 #[] #[])
  fields := #[]
  methods := #[]
  instanceTypes := #[]
  staticTypes := #[]
  resolved := Array.replicate 8 none
  statics := none }

/-- the primitive byte -/
def k5 : Class := { plain "byte" none with kind := .primitive 'B', accessFlags := 0x411 }
/-- [B -/
def k6 : Class := { plain "[B" (some 0) with kind := .array 5 .byte, interfaces := #[3, 4], accessFlags := 1041 }

/-- the primitive int -/
def k7 : Class := { plain "int" none with kind := .primitive 'I', accessFlags := 0x411 }
/-- [I -/
def k8 : Class := { plain "[I" (some 0) with kind := .array 7 .int, interfaces := #[3, 4], accessFlags := 1041 }

def heap : Heap := #[]
def classes : Array Class := #[k0, k1, k2, k3, k4, k5, k6, k7, k8]
def interned : List (Array UInt16 × Addr) := []
def slotsUsed : Nat := 0
def theMethod : MethodId := ⟨1, 1⟩
def args0 : Array Value := #[.long 5, .long 6, .long 7, .long 8, .long 9]
def aboutOver (below : List Frame) : State where
  vm := { classes := classes, interned := interned.toArray }
  heap := heap
  slotsUsed := slotsUsed
  threads := #[{ frames := .invoking theMethod args0 :: below }]
def below0 : List Frame := [.native { method := ⟨0, 0⟩, args := #[] }]
def about1 : State := aboutOver below0
def p0 : Program := .bare "" "" ""
def e0 : Env := launch0.env 0 0 0
theorem w_frames : about1.frames = Frame.invoking theMethod args0 :: below0 := rfl
set_option maxRecDepth 65536 in
theorem w_args : argsFit about1.vm theMethod args0 = true := by decide +kernel
set_option maxRecDepth 65536 in
theorem w_heap : heapFits about1 = true := by decide +kernel
set_option maxRecDepth 65536 in
theorem w_runnable : about1.curStatus? = some .runnable := by decide +kernel
set_option maxRecDepth 65536 in
theorem w_alone : about1.alone = true := by decide +kernel
set_option maxRecDepth 65536 in
theorem w_named : about1.methodNamed? x = some theMethod := by decide +kernel
set_option maxRecDepth 65536 in
theorem w_hears : about1.hears theMethod below0 = true := by decide +kernel
set_option maxRecDepth 65536 in
theorem w_ripe : about1.ripe theMethod args0 below0 = true := by decide +kernel
theorem w_running : about1.status = .running := rfl
set_option maxRecDepth 65536 in
theorem w_room : about1.hasRoom e0.platform room_1 = true :=
  launch0.hasRoom_least _ room_1 (by decide +kernel) (by decide +kernel) (by decide +kernel) (by decide +kernel) (by decide +kernel) (by decide +kernel)
theorem allAtoms_all (ts : List Jvm.Cond) (a : Array Jvm.Value) (st : Jvm.State) : (allAtoms ts).before a st = ts.all (fun c => c.before a st) := by
  induction ts with
  | nil => rfl
  | cons c t ih =>
    show (Jvm.Cond.and c (allAtoms t)).before a st = _
    rw [Jvm.Cond.before_and, ih, List.all_cons]
def words1 : List Jvm.Cond := Jvm.Cond.code x code maxLocals ret :: tables_1
/-- a 'code' word, met by the world's own term for the bytes: nothing is compared byte by byte -/
theorem code_word {y : MethodName} {bytes : ByteArray} {mx : Nat} {rt : Option FieldType} {a : Array Value} {s : State} {m : MethodId} {meth : Method} {c : Code} (h1 : s.methodNamed? y = some m) (h2 : s.vm.method? m = some meth) (h3 : meth.code = some c) (h4 : c.code = bytes)
    (h5 : (c.maxLocals == mx && c.exceptionTable.isEmpty && decide (c.maxStack ≤ mostOperands) && decide (meth.sig.returnType = rt) && !meth.locks && decide (parseMethodDescriptor y.desc = some meth.sig)) = true) : (Jvm.Cond.code y bytes mx rt).before a s = true := by
  simp only [Bool.and_eq_true, beq_iff_eq, Bool.not_eq_true', decide_eq_true_eq] at h5
  obtain ⟨⟨⟨⟨⟨g1, g2⟩, g3⟩, g4⟩, g5⟩, g6⟩ := h5
  simp [Cond.before, Cond.holds, Cond.value, h1, h2, h3, h4, g1, g2, g3, g4, g5, g6]
def isCode : Jvm.Cond → Bool
  | .code _ _ _ _ => true
  | _ => false
theorem all_split {L : List Jvm.Cond} {P : Jvm.Cond → Bool} (h1 : L.all (fun c => isCode c || P c) = true) (h2 : ∀ c ∈ L.filter isCode, P c = true) : L.all P = true := by
  refine List.all_eq_true.mpr fun c hc => ?_
  have h := List.all_eq_true.mp h1 c hc
  rcases Bool.eq_false_or_eq_true (isCode c) with hi | hi
  · exact h2 c (List.mem_filter.mpr ⟨hc, hi⟩)
  · simpa [hi] using h
set_option maxRecDepth 65536 in
theorem w_c0 : (Jvm.Cond.code x code maxLocals ret).before args0 about1 = true := code_word (m := ⟨1, 1⟩) (meth := k1m1) (c := k1c1) (by decide +kernel) rfl rfl rfl (by decide +kernel)
set_option maxRecDepth 65536 in
theorem w_c1 : (Jvm.Cond.code ({ cls := "com/example/tinlet/tinlet/http/LogThrottle", name := "<init>", desc := "(J)V" } : Jvm.MethodName) prog_35_method_1_code (3 : Nat) (Option.none : Option Jvm.ClassFile.FieldType)).before args0 about1 = true := code_word (m := ⟨2, 0⟩) (meth := k2m0) (c := k2c0) (by decide +kernel) rfl rfl rfl (by decide +kernel)
set_option maxRecDepth 65536 in
theorem w_c2 : (Jvm.Cond.code ({ cls := "java/lang/Object", name := "<init>", desc := "()V" } : Jvm.MethodName) object_method_1_code (1 : Nat) (Option.none : Option Jvm.ClassFile.FieldType)).before args0 about1 = true := code_word (m := ⟨0, 0⟩) (meth := k0m0) (c := k0c0) (by decide +kernel) rfl rfl rfl (by decide +kernel)
set_option maxRecDepth 65536 in
theorem w_c3 : (Jvm.Cond.code ({ cls := "com/example/tinlet/tinlet/http/LogThrottle", name := "count", desc := "(J)I" } : Jvm.MethodName) prog_35_method_2_code (4 : Nat) (Option.some Jvm.ClassFile.FieldType.int)).before args0 about1 = true := code_word (m := ⟨2, 1⟩) (meth := k2m1) (c := k2c1) (by decide +kernel) rfl rfl rfl (by decide +kernel)
def codes1 : List Jvm.Cond := [Jvm.Cond.code x code maxLocals ret, Jvm.Cond.code ({ cls := "com/example/tinlet/tinlet/http/LogThrottle", name := "<init>", desc := "(J)V" } : Jvm.MethodName) prog_35_method_1_code (3 : Nat) (Option.none : Option Jvm.ClassFile.FieldType), Jvm.Cond.code ({ cls := "java/lang/Object", name := "<init>", desc := "()V" } : Jvm.MethodName) object_method_1_code (1 : Nat) (Option.none : Option Jvm.ClassFile.FieldType), Jvm.Cond.code ({ cls := "com/example/tinlet/tinlet/http/LogThrottle", name := "count", desc := "(J)I" } : Jvm.MethodName) prog_35_method_2_code (4 : Nat) (Option.some Jvm.ClassFile.FieldType.int)]
set_option maxRecDepth 65536 in
theorem codes_eq : words1.filter isCode = codes1 := rfl
theorem w_codes : ∀ c ∈ words1.filter isCode, c.before args0 about1 = true := by
  rw [codes_eq]
  intro c hc
  simp only [codes1, List.mem_cons, List.not_mem_nil, or_false] at hc
  rcases hc with rfl | rfl | rfl | rfl
  · exact w_c0
  · exact w_c1
  · exact w_c2
  · exact w_c3
set_option maxRecDepth 65536 in
theorem w_t1 : words1.all (fun c => isCode c || c.before args0 about1) = true := by decide +kernel
theorem w_tables : (allAtoms (Jvm.Cond.code x code maxLocals ret :: tables_1)).before args0 about1 = true := by
  rw [allAtoms_all]
  show words1.all (fun c => c.before args0 about1) = true
  refine all_split ?_ w_codes
  rw [w_t1]
set_option maxRecDepth 65536 in
theorem w_case : (Jvm.Cond.and given_1 narrow_1).before args0 about1 = true := by decide +kernel
theorem w_applies : (headSpec (Jvm.Cond.code x code maxLocals ret :: tables_1) room_1).applies x e0.platform about1 = true :=
  (Spec.applies_iff w_frames).mpr ⟨w_running, w_runnable, w_alone, w_named, w_hears, w_ripe, w_room, w_tables⟩
theorem atStart : AtStart classFile x code maxLocals ret World_1 tables_1 room_1 Calls_1 rest_1 Pre_1 launch0 p0 e0 about1 theMethod args0 below0 :=
  ⟨lists_1, trivial, launch0.admits_env _ _ _, launch0.least_env, fairChoices_fair.cas, fairChoices_fair.clock, w_frames, w_args, w_heap, w_applies, trivial, trivial, w_case⟩
end start1
theorem witness_1 : WitnessClaimed_1 := ⟨start1.p0, start1.e0, start1.about1, start1.theMethod, start1.args0, start1.below0, start1.atStart⟩
end Jvm.Pilot.@@N@@
