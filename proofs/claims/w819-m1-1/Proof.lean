import JvmDerived
import JvmDerived.Pilot.@@N@@Statement
import JvmDerived.Pilot.@@N@@Code
set_option linter.unusedVariables false
set_option linter.unusedSimpArgs false
namespace Jvm.RoadKit
open Sem ClassFile Op Lib Jvm.Stand Jvm.Free Jvm.LawKit
section New
variable {p : Program} {l : Launch} {e : Env} {R : Room} {s : State} {m : MethodId} {args : Array Value} {below : List Frame} {meth : Method} {c : Code} {T : State} {locs : List Loc} {cells slots : Nat}
theorem retI (X : Stand p l e R s m args below meth c T locs cells slots) (hx : p.tables.exec = Jvm.exec) {pc : Nat} {Ls : Array Slot} {z : Int32} {rest : List Value} (hret : meth.sig.returnType = some .int) (hd : decode c.code pc = .ok (.ireturn, 1)) {fs : List Frame}
    (hl : ∀ (f : JFrame) (acts : List Action), f.method = m → f.locked = none → f.entered = [] → (doReturn e (T.setTop f) acts (some (.int z))).1 = T.setFrames fs) : Steps p.tables e below (T.setTop (mkF m pc Ls (.int z :: rest))) (T.setFrames fs) := by
  have hm' : T.vm.method? m = some meth := X.method'
  have hn : narrow .int (.int z) = .int z := rfl
  show Steps p.tables e below (T.setTop { method := m, pc := pc, locals := Ls, stack := _ :: rest, locked := none }) _
  jvm_step X.here [X.here.top, hx, hd, hm', hret, hn]
  first | (intro acts; rw [hl _ acts rfl rfl rfl]) | rw [hl _ _ rfl rfl rfl]
  exact Steps.refl _
end New
end Jvm.RoadKit
namespace Jvm.Pilot.@@N@@
open Jvm Jvm.ClassFile Sem Op Lib Jvm.Free Jvm.Stand Jvm.LawKit Jvm.RoadKit Bundle Jvm.Pilot.@@N@@.Jvm.D
def own_W (Z : State) (h : Heap) (c0 c1 c2 c3 c4 c5 c6 : Addr) : Prop := Sta Z h "com/example/wengao/wengao/mapping/AuditRole" "NONE" "Lcom/example/wengao/wengao/mapping/AuditRole;" (.ref c0) ∧ Exa Z h c0 "com/example/wengao/wengao/mapping/AuditRole" ∧ Sta Z h "com/example/wengao/wengao/mapping/AuditRole" "DELETED_AT" "Lcom/example/wengao/wengao/mapping/AuditRole;" (.ref c1) ∧ Exa Z h c1 "com/example/wengao/wengao/mapping/AuditRole" ∧ Sta Z h "com/example/wengao/wengao/mapping/AuditRole" "DELETED_BY" "Lcom/example/wengao/wengao/mapping/AuditRole;" (.ref c2) ∧ Exa Z h c2 "com/example/wengao/wengao/mapping/AuditRole" ∧ Sta Z h "com/example/wengao/wengao/mapping/AuditRole" "MODIFIED_AT" "Lcom/example/wengao/wengao/mapping/AuditRole;" (.ref c3) ∧ Exa Z h c3 "com/example/wengao/wengao/mapping/AuditRole" ∧ Sta Z h "com/example/wengao/wengao/mapping/AuditRole" "MODIFIED_BY" "Lcom/example/wengao/wengao/mapping/AuditRole;" (.ref c4) ∧ Exa Z h c4 "com/example/wengao/wengao/mapping/AuditRole" ∧ Sta Z h "com/example/wengao/wengao/mapping/AuditRole" "CREATED_BY" "Lcom/example/wengao/wengao/mapping/AuditRole;" (.ref c5) ∧ Exa Z h c5 "com/example/wengao/wengao/mapping/AuditRole" ∧ Sta Z h "com/example/wengao/wengao/mapping/AuditRole" "CREATED_AT" "Lcom/example/wengao/wengao/mapping/AuditRole;" (.ref c6) ∧ Exa Z h c6 "com/example/wengao/wengao/mapping/AuditRole" ∧ Fld Z h c0 "java/lang/Enum" "ordinal" "I" (.int (0 : Int32)) ∧ Fld Z h c1 "java/lang/Enum" "ordinal" "I" (.int (5 : Int32)) ∧ Fld Z h c2 "java/lang/Enum" "ordinal" "I" (.int (6 : Int32)) ∧ Fld Z h c3 "java/lang/Enum" "ordinal" "I" (.int (3 : Int32)) ∧ Fld Z h c4 "java/lang/Enum" "ordinal" "I" (.int (4 : Int32)) ∧ Fld Z h c5 "java/lang/Enum" "ordinal" "I" (.int (2 : Int32)) ∧ Fld Z h c6 "java/lang/Enum" "ordinal" "I" (.int (1 : Int32))
def own_Q (r : Value) (h0 : Heap) (n0 : Nat) (v : Option Value) (h : Heap) (L : List Loc) : Prop := v = some r ∧ Fr n0 L ∧ h = h0
theorem own_d1_0 : decode method_3_code 0 = .ok (.iload_n 0, 1) := by decide +kernel
theorem own_d1_1 : decode method_3_code 1 = .ok (.ifCond .ne 7, 3) := by decide +kernel
theorem own_d1_4 : decode method_3_code 4 = .ok (.getstatic 23, 3) := by decide +kernel
theorem own_d1_7 : decode method_3_code 7 = .ok (.areturn, 1) := by decide +kernel
theorem own_pn0 : plainName "com/example/wengao/wengao/mapping/AuditRoleIsStampedOnDeletePinLaw" = true := by first | (simp [plainName, overriddenIn]; done) | decide +kernel
theorem own_ef1 (m : MethodId) (x0 : Int32) : entryFrame m #[(.int x0)] 1 = mkF m 0 #[.val (.int x0)] [] := by first | (simp [entryFrame, mkF, argsToLocals, Value.category]; done) | rfl
set_option maxRecDepth 65536 in
set_option maxHeartbeats 40000000 in
theorem own_r1_0 (l : Launch) (Z : State) (a0 : Array Value) (hw : ∀ d ∈ tables_1, d.before a0 Z = true) (ws : List Jvm.Cond)  (c0 c1 c2 c3 c4 c5 c6 : Addr) (h0 : Heap) (n0 : Nat) (Z0 : n0 ≤ h0.size) (K : own_W Z h0 c0 c1 c2 c3 c4 c5 c6)  :
    MetFree l (⟨"com/example/wengao/wengao/mapping/AuditRoleIsStampedOnDeletePinLaw", "pick", "(I)Lcom/example/wengao/wengao/mapping/AuditRole;"⟩ : MethodName) (head1 (Jvm.Cond.code (⟨"com/example/wengao/wengao/mapping/AuditRoleIsStampedOnDeletePinLaw", "pick", "(I)Lcom/example/wengao/wengao/mapping/AuditRole;"⟩ : MethodName) method_3_code 1 (some (.object "com/example/wengao/wengao/mapping/AuditRole")) :: ws) ({ frames := 0, cells := 0, slots := 0, locals := 0 } : Room)) (fun a U => a = #[(.int (0 : Int32))] ∧ Z.Warmed39 U.vm ∧ U.heap = h0) (fun _ _ _ _ _ => True) (fun _ U o U' => ∃ v L, o = .returned v ∧ own_Q (.ref c0) h0 n0 v U'.heap L ∧ FrameEnd U o U' L ({ frames := 0, cells := 0, slots := 0, locals := 0 } : Room).cells ({ frames := 0, cells := 0, slots := 0, locals := 0 } : Room).slots) := by
  have K' := K
  obtain ⟨S0, E0, S1, E1, S2, E2, S3, E3, S4, E4, S5, E5, S6, E6, F0, F1, F2, F3, F4, F5, F6⟩ := K'
  refine MetFree.of_bodySF (plainFor_of_name own_pn0) hisR ?_
  intro p e s m args below meth c s₁ Bd hml0 hP hK
  obtain ⟨rfl, hZ, hh⟩ := hP
  have hx := Bd.exec
  have hby := Bd.bytes
  have hml : c.maxLocals = 1 := hml0
  have hown : s.vm.findClass "com/example/wengao/wengao/mapping/AuditRoleIsStampedOnDeletePinLaw" = some m.cls := findClass_of_methodNamed Bd.named
  have X0 : Stand p l e ({ frames := 0, cells := 0, slots := 0, locals := 0 } : Room) s m #[(.int (0 : Int32))] below meth c s₁ [] 0 0 := Stand.of_body Bd
  have e0 : s₁.heap = h0 := by rw [← hh, Bd.state]; rfl
  have N0 := Fr.nil n0
  have pre0 : ∀ t, Steps p.tables e below (s₁.setTop (mkF m 0 #[.val (.int (0 : Int32))] [])) t → Steps p.tables e below (s₁.setTop (entryFrame m #[(.int (0 : Int32))] 1)) t := fun t k => castTop (own_ef1 m (0 : Int32)) k
  obtain ⟨T1, X1, e1, st1⟩ := getS2 X0 hx hZ hown (host := "") (Or.inl (hw _ (List.mem_of_getElem? (i := 5) rfl))) Via.refl e0 S0 (g := (mkF m 4 #[.val (.int (0 : Int32))] [])) rfl (hb hby own_d1_4)
  obtain ⟨fs, hr, hrun, hended, hW, hsame⟩ := X1.leave (v := some (.ref c0)) (fun h => by rw [Bd.returns] at h; cases h)
  refine ⟨_, _, pre0 _ ?_, hrun, hended, _, _, rfl, ?_, ⟨_, rfl⟩, hW, hsame.mono (by decide) (by decide)⟩
  · show Steps p.tables e below (s₁.setTop (mkF m 0 #[.val (.int (0 : Int32))] [])) _
    refine XS.iloadN X0.here hx rfl (hb hby own_d1_0) rfl ?_
    show Steps p.tables e below (s₁.setTop (mkF m 1 #[.val (.int (0 : Int32))] [(.int (0 : Int32))])) _
    refine XS.ifNo X0.here hx rfl (hb hby own_d1_1) rfl ((if0 _ _).trans (teq (by decide : (0 : Int32) = (0 : Int32))).2) ?_
    show Steps p.tables e below (s₁.setTop (mkF m 4 #[.val (.int (0 : Int32))] [])) _
    refine st1 _ ?_
    show Steps p.tables e below (T1.setTop (mkF m 7 #[.val (.int (0 : Int32))] [(.ref c0)])) _
    jvm_step X1.here [X1.here.top, hx, (hb hby own_d1_7), X1.method', Bd.returns, Value.isRef, FieldType.isReference]
    first | (intro acts; rw [hr _ acts rfl rfl rfl]) | rw [hr _ _ rfl rfl rfl]
    exact Steps.refl _
  · show own_Q _ h0 n0 _ T1.heap _
    exact ⟨rfl, N0, e1⟩
theorem own_pd0 : parseMethodDescriptor "(I)Lcom/example/wengao/wengao/mapping/AuditRole;" = some ⟨[.int], some (.object "com/example/wengao/wengao/mapping/AuditRole")⟩ := by decide +kernel
theorem own_d2_0 : decode prog_21_method_9_code 0 = .ok (.aload_n 0, 1) := by decide +kernel
theorem own_d2_1 : decode prog_21_method_9_code 1 = .ok (.getstatic 19, 3) := by decide +kernel
theorem own_d2_4 : decode prog_21_method_9_code 4 = .ok (.if_acmp .eq 10, 3) := by decide +kernel
theorem own_d2_7 : decode prog_21_method_9_code 7 = .ok (.aload_n 0, 1) := by decide +kernel
theorem own_d2_8 : decode prog_21_method_9_code 8 = .ok (.getstatic 22, 3) := by decide +kernel
theorem own_d2_11 : decode prog_21_method_9_code 11 = .ok (.if_acmp .ne 7, 3) := by decide +kernel
theorem own_d2_18 : decode prog_21_method_9_code 18 = .ok (.iconst 0, 1) := by decide +kernel
theorem own_d2_19 : decode prog_21_method_9_code 19 = .ok (.ireturn, 1) := by decide +kernel
theorem own_pn1 : plainName "com/example/wengao/wengao/mapping/AuditRole" = true := by first | (simp [plainName, overriddenIn]; done) | decide +kernel
theorem own_ef2 (m : MethodId) (x0 : Addr) : entryFrame m #[(.ref x0)] 1 = mkF m 0 #[.val (.ref x0)] [] := by first | (simp [entryFrame, mkF, argsToLocals, Value.category]; done) | rfl
set_option maxRecDepth 65536 in
set_option maxHeartbeats 40000000 in
theorem own_r2_0 (l : Launch) (Z : State) (a0 : Array Value) (hw : ∀ d ∈ tables_1, d.before a0 Z = true) (ws : List Jvm.Cond)  (c0 c1 c2 c3 c4 c5 c6 : Addr) (h0 : Heap) (n0 : Nat) (Z0 : n0 ≤ h0.size) (K : own_W Z h0 c0 c1 c2 c3 c4 c5 c6)  :
    MetFree l (⟨"com/example/wengao/wengao/mapping/AuditRole", "isStampedOnDelete", "()Z"⟩ : MethodName) (head1 (Jvm.Cond.code (⟨"com/example/wengao/wengao/mapping/AuditRole", "isStampedOnDelete", "()Z"⟩ : MethodName) prog_21_method_9_code 1 (some .boolean) :: ws) ({ frames := 0, cells := 0, slots := 0, locals := 0 } : Room)) (fun a U => a = #[(.ref c0)] ∧ Z.Warmed39 U.vm ∧ U.heap = h0) (fun _ _ _ _ _ => True) (fun _ U o U' => ∃ v L, o = .returned v ∧ own_Q (.int (0 : Int32)) h0 n0 v U'.heap L ∧ FrameEnd U o U' L ({ frames := 0, cells := 0, slots := 0, locals := 0 } : Room).cells ({ frames := 0, cells := 0, slots := 0, locals := 0 } : Room).slots) := by
  have K' := K
  obtain ⟨S0, E0, S1, E1, S2, E2, S3, E3, S4, E4, S5, E5, S6, E6, F0, F1, F2, F3, F4, F5, F6⟩ := K'
  have ne_0_1 : ¬ (c0 = c1) := (Fld.ne F0 F1 (fun q => absurd (Value.int.inj q) (by decide)))
  have ne_0_2 : ¬ (c0 = c2) := (Fld.ne F0 F2 (fun q => absurd (Value.int.inj q) (by decide)))
  refine MetFree.of_bodySF (plainFor_of_name own_pn1) hisR ?_
  intro p e s m args below meth c s₁ Bd hml0 hP hK
  obtain ⟨rfl, hZ, hh⟩ := hP
  have hx := Bd.exec
  have hby := Bd.bytes
  have hml : c.maxLocals = 1 := hml0
  have hown : s.vm.findClass "com/example/wengao/wengao/mapping/AuditRole" = some m.cls := findClass_of_methodNamed Bd.named
  have X0 : Stand p l e ({ frames := 0, cells := 0, slots := 0, locals := 0 } : Room) s m #[(.ref c0)] below meth c s₁ [] 0 0 := Stand.of_body Bd
  have e0 : s₁.heap = h0 := by rw [← hh, Bd.state]; rfl
  have N0 := Fr.nil n0
  have pre0 : ∀ t, Steps p.tables e below (s₁.setTop (mkF m 0 #[.val (.ref c0)] [])) t → Steps p.tables e below (s₁.setTop (entryFrame m #[(.ref c0)] 1)) t := fun t k => castTop (own_ef2 m c0) k
  obtain ⟨T1, X1, e1, st1⟩ := getS2 X0 hx hZ hown (host := "") (Or.inl (hw _ (List.mem_of_getElem? (i := 13) rfl))) Via.refl e0 S1 (g := (mkF m 1 #[.val (.ref c0)] [(.ref c0)])) rfl (hb hby own_d2_1)
  obtain ⟨T2, X2, e2, st2⟩ := getS2 X1 hx hZ hown (host := "") (Or.inl (hw _ (List.mem_of_getElem? (i := 15) rfl))) Via.refl e1 S2 (g := (mkF m 8 #[.val (.ref c0)] [(.ref c0)])) rfl (hb hby own_d2_8)
  obtain ⟨fs, hr, hrun, hended, hW, hsame⟩ := X2.leave (v := some (.int (0 : Int32))) (fun h => by rw [Bd.returns] at h; cases h)
  refine ⟨_, _, pre0 _ ?_, hrun, hended, _, _, rfl, ?_, ⟨_, rfl⟩, hW, hsame.mono (by decide) (by decide)⟩
  · show Steps p.tables e below (s₁.setTop (mkF m 0 #[.val (.ref c0)] [])) _
    refine XS.aloadN X0.here hx rfl (hb hby own_d2_0) rfl rfl ?_
    show Steps p.tables e below (s₁.setTop (mkF m 1 #[.val (.ref c0)] [(.ref c0)])) _
    refine st1 _ ?_
    show Steps p.tables e below (T1.setTop (mkF m 4 #[.val (.ref c0)] [(.ref c1), (.ref c0)])) _
    refine Jvm.RoadKit.acmp (g := (mkF m 4 #[.val (.ref c0)] [(.ref c1), (.ref c0)])) X1 hx rfl rfl rfl (pc0 := 4) (pc' := 7) (same := false) rfl (hb hby own_d2_4) rfl (decide_eq_false fun q => ne_0_1 (Value.ref.inj q)) (by decide) (by decide) ?_
    show Steps p.tables e below (T1.setTop (mkF m 7 #[.val (.ref c0)] [])) _
    refine XS.aloadN X1.here hx rfl (hb hby own_d2_7) rfl rfl ?_
    show Steps p.tables e below (T1.setTop (mkF m 8 #[.val (.ref c0)] [(.ref c0)])) _
    refine st2 _ ?_
    show Steps p.tables e below (T2.setTop (mkF m 11 #[.val (.ref c0)] [(.ref c2), (.ref c0)])) _
    refine Jvm.RoadKit.acmp (g := (mkF m 11 #[.val (.ref c0)] [(.ref c2), (.ref c0)])) X2 hx rfl rfl rfl (pc0 := 11) (pc' := 18) (same := false) rfl (hb hby own_d2_11) rfl (decide_eq_false fun q => ne_0_2 (Value.ref.inj q)) (by decide) (by decide) ?_
    show Steps p.tables e below (T2.setTop (mkF m 18 #[.val (.ref c0)] [])) _
    refine XS.iconst X2.here hx rfl (hb hby own_d2_18) ?_
    show Steps p.tables e below (T2.setTop (mkF m 19 #[.val (.ref c0)] [(.int (0 : Int32))])) _
    exact retN X2 hx (t := .boolean) Bd.returns (by simp) (hb hby own_d2_19) hr
  · show own_Q _ h0 n0 _ T2.heap _
    exact ⟨rfl, N0, e2⟩
theorem own_pd1 : parseMethodDescriptor "()Z" = some ⟨[], some .boolean⟩ := by decide +kernel
theorem own_d3_0 : decode prog_21_method_7_code 0 = .ok (.aload_n 0, 1) := by decide +kernel
theorem own_d3_1 : decode prog_21_method_7_code 1 = .ok (.getstatic 3, 3) := by decide +kernel
theorem own_d3_4 : decode prog_21_method_7_code 4 = .ok (.if_acmp .eq 14, 3) := by decide +kernel
theorem own_d3_18 : decode prog_21_method_7_code 18 = .ok (.iconst 0, 1) := by decide +kernel
theorem own_d3_19 : decode prog_21_method_7_code 19 = .ok (.ireturn, 1) := by decide +kernel
theorem own_ef3 (m : MethodId) (x0 : Addr) : entryFrame m #[(.ref x0)] 1 = mkF m 0 #[.val (.ref x0)] [] := by first | (simp [entryFrame, mkF, argsToLocals, Value.category]; done) | rfl
set_option maxRecDepth 65536 in
set_option maxHeartbeats 40000000 in
theorem own_r3_0 (l : Launch) (Z : State) (a0 : Array Value) (hw : ∀ d ∈ tables_1, d.before a0 Z = true) (ws : List Jvm.Cond)  (c0 c1 c2 c3 c4 c5 c6 : Addr) (h0 : Heap) (n0 : Nat) (Z0 : n0 ≤ h0.size) (K : own_W Z h0 c0 c1 c2 c3 c4 c5 c6)  :
    MetFree l (⟨"com/example/wengao/wengao/mapping/AuditRole", "isStampedOnSave", "()Z"⟩ : MethodName) (head1 (Jvm.Cond.code (⟨"com/example/wengao/wengao/mapping/AuditRole", "isStampedOnSave", "()Z"⟩ : MethodName) prog_21_method_7_code 1 (some .boolean) :: ws) ({ frames := 0, cells := 0, slots := 0, locals := 0 } : Room)) (fun a U => a = #[(.ref c0)] ∧ Z.Warmed39 U.vm ∧ U.heap = h0) (fun _ _ _ _ _ => True) (fun _ U o U' => ∃ v L, o = .returned v ∧ own_Q (.int (0 : Int32)) h0 n0 v U'.heap L ∧ FrameEnd U o U' L ({ frames := 0, cells := 0, slots := 0, locals := 0 } : Room).cells ({ frames := 0, cells := 0, slots := 0, locals := 0 } : Room).slots) := by
  have K' := K
  obtain ⟨S0, E0, S1, E1, S2, E2, S3, E3, S4, E4, S5, E5, S6, E6, F0, F1, F2, F3, F4, F5, F6⟩ := K'
  refine MetFree.of_bodySF (plainFor_of_name own_pn1) hisR ?_
  intro p e s m args below meth c s₁ Bd hml0 hP hK
  obtain ⟨rfl, hZ, hh⟩ := hP
  have hx := Bd.exec
  have hby := Bd.bytes
  have hml : c.maxLocals = 1 := hml0
  have hown : s.vm.findClass "com/example/wengao/wengao/mapping/AuditRole" = some m.cls := findClass_of_methodNamed Bd.named
  have X0 : Stand p l e ({ frames := 0, cells := 0, slots := 0, locals := 0 } : Room) s m #[(.ref c0)] below meth c s₁ [] 0 0 := Stand.of_body Bd
  have e0 : s₁.heap = h0 := by rw [← hh, Bd.state]; rfl
  have N0 := Fr.nil n0
  have pre0 : ∀ t, Steps p.tables e below (s₁.setTop (mkF m 0 #[.val (.ref c0)] [])) t → Steps p.tables e below (s₁.setTop (entryFrame m #[(.ref c0)] 1)) t := fun t k => castTop (own_ef3 m c0) k
  obtain ⟨T1, X1, e1, st1⟩ := getS2 X0 hx hZ hown (host := "") (Or.inl (hw _ (List.mem_of_getElem? (i := 22) rfl))) Via.refl e0 S0 (g := (mkF m 1 #[.val (.ref c0)] [(.ref c0)])) rfl (hb hby own_d3_1)
  obtain ⟨fs, hr, hrun, hended, hW, hsame⟩ := X1.leave (v := some (.int (0 : Int32))) (fun h => by rw [Bd.returns] at h; cases h)
  refine ⟨_, _, pre0 _ ?_, hrun, hended, _, _, rfl, ?_, ⟨_, rfl⟩, hW, hsame.mono (by decide) (by decide)⟩
  · show Steps p.tables e below (s₁.setTop (mkF m 0 #[.val (.ref c0)] [])) _
    refine XS.aloadN X0.here hx rfl (hb hby own_d3_0) rfl rfl ?_
    show Steps p.tables e below (s₁.setTop (mkF m 1 #[.val (.ref c0)] [(.ref c0)])) _
    refine st1 _ ?_
    show Steps p.tables e below (T1.setTop (mkF m 4 #[.val (.ref c0)] [(.ref c0), (.ref c0)])) _
    refine Jvm.RoadKit.acmp (g := (mkF m 4 #[.val (.ref c0)] [(.ref c0), (.ref c0)])) X1 hx rfl rfl rfl (pc0 := 4) (pc' := 18) (same := true) rfl (hb hby own_d3_4) rfl (decide_eq_true rfl) (by decide) (by decide) ?_
    show Steps p.tables e below (T1.setTop (mkF m 18 #[.val (.ref c0)] [])) _
    refine XS.iconst X1.here hx rfl (hb hby own_d3_18) ?_
    show Steps p.tables e below (T1.setTop (mkF m 19 #[.val (.ref c0)] [(.int (0 : Int32))])) _
    exact retN X1 hx (t := .boolean) Bd.returns (by simp) (hb hby own_d3_19) hr
  · show own_Q _ h0 n0 _ T1.heap _
    exact ⟨rfl, N0, e1⟩
theorem own_ef0 (m : MethodId) (x0 : Int32) : entryFrame m #[(.int x0)] maxLocals = mkF m 0 #[.val (.int x0), .unset, .unset, .unset, .unset, .unset, .unset, .unset] [] := by first | (simp [entryFrame, mkF, argsToLocals, Value.category, maxLocals]; done) | rfl
set_option maxRecDepth 65536 in
set_option maxHeartbeats 40000000 in
theorem own_r0_0 (l : Launch) (Z : State) (a0 : Array Value) (hw : ∀ d ∈ tables_1, d.before a0 Z = true) (ws : List Jvm.Cond) (p0 : Int32) (c0 c1 c2 c3 c4 c5 c6 : Addr) (h0 : Heap) (n0 : Nat) (Z0 : n0 ≤ h0.size) (K : own_W Z h0 c0 c1 c2 c3 c4 c5 c6) (hk0 : ((p0 &&& (2147483647 : Int32)) % (7 : Int32)) = (0 : Int32)) :
    MetFree l x (head1 (Jvm.Cond.code x code maxLocals ret :: ws) room_1) (fun a U => a = #[(.int p0)] ∧ Z.Warmed39 U.vm ∧ U.heap = h0) (fun _ _ _ _ _ => True) (fun _ U o U' => ∃ v L, o = .returned v ∧ own_Q (.int (1 : Int32)) h0 n0 v U'.heap L ∧ FrameEnd U o U' L room_1.cells room_1.slots) := by
  have K' := K
  obtain ⟨S0, E0, S1, E1, S2, E2, S3, E3, S4, E4, S5, E5, S6, E6, F0, F1, F2, F3, F4, F5, F6⟩ := K'
  refine MetFree.of_bodySF (plainFor_of_name own_pn0) hisR ?_
  intro p e s m args below meth c s₁ Bd hml0 hP hK
  obtain ⟨rfl, hZ, hh⟩ := hP
  have hx := Bd.exec
  have hby := Bd.bytes
  have hml : c.maxLocals = 8 := hml0
  have hown : s.vm.findClass "com/example/wengao/wengao/mapping/AuditRoleIsStampedOnDeletePinLaw" = some m.cls := findClass_of_methodNamed Bd.named
  have X0 : Stand p l e room_1 s m #[(.int p0)] below meth c s₁ [] 0 0 := Stand.of_body Bd
  have e0 : s₁.heap = h0 := by rw [← hh, Bd.state]; rfl
  have N0 := Fr.nil n0
  have pre0 : ∀ t, Steps p.tables e below (s₁.setTop (mkF m 0 #[.val (.int p0), .unset, .unset, .unset, .unset, .unset, .unset, .unset] [])) t → Steps p.tables e below (s₁.setTop (entryFrame m #[(.int p0)] maxLocals)) t := fun t k => castTop (own_ef0 m p0) k
  obtain ⟨_, _, ⟨T1, L1, k1, n1⟩, -, X1, ⟨Lc1, hQ1, l1, y1, z1⟩, st1⟩ := Jvm.LawKit.callS X0 hx (y := (⟨"com/example/wengao/wengao/mapping/AuditRoleIsStampedOnDeletePinLaw", "pick", "(I)Lcom/example/wengao/wengao/mapping/AuditRole;"⟩ : MethodName)) hown (mvT hZ (hw _ (List.mem_of_getElem? (i := 1) rfl))) (mvT hZ (hw _ (List.mem_of_getElem? (i := 2) rfl))) (mvT hZ (hw _ (List.mem_of_getElem? (i := 3) rfl))) (mvT hZ (hw _ (List.mem_of_getElem? (i := 4) rfl))) (by decide) (backOf (W := 0) (own_r1_0 l Z a0 hw [] c0 c1 c2 c3 c4 c5 c6 h0 n0 Z0 K) hZ (hw _ (List.mem_of_getElem? (i := 4) rfl)) (hw _ (List.mem_of_getElem? (i := 3) rfl)) (by decide) (by decide)) (g := (mkF m 9 #[.val (.int p0), .val (.int (0 : Int32)), .unset, .unset, .unset, .unset, .unset, .unset] [(.int (0 : Int32))])) rfl (by rw [hml]; rfl) (argsL := [(.int (0 : Int32))]) (rest := []) (lenOf own_pd0 rfl) rfl (by show 2 * 0 + _ ≤ _; exact Nat.le_of_eq rfl) (hb hby at_9) (fun _ _ => ⟨rfl, e0, (by decide : 0 + 0 ≤ _), (by decide : 0 + 0 ≤ _)⟩)
  dsimp only [Pt.U, Pt.locs, Pt.cells, Pt.slots] at X1 l1 y1 z1 st1 hQ1
  subst l1 y1 z1
  obtain ⟨rfl, N1q, e1⟩ := hQ1
  have N1 := Fr.app N0 N1q
  obtain ⟨cq2, kq2, q2a, q2b, q2c⟩ := isOf hZ e1 E0
  obtain ⟨_, _, ⟨T2, L2, k2, n2⟩, -, X2, ⟨Lc2, hQ2, l2, y2, z2⟩, st2⟩ := X1.virtualBack hx (y := (⟨"com/example/wengao/wengao/mapping/AuditRole", "isStampedOnDelete", "()Z"⟩ : MethodName)) (z := (⟨"com/example/wengao/wengao/mapping/AuditRole", "isStampedOnDelete", "()Z"⟩ : MethodName)) hown (mvT hZ (hw _ (List.mem_of_getElem? (i := 8) rfl))) (mvT hZ (hw _ (List.mem_of_getElem? (i := 9) rfl))) (notFace_of_selects (args := #[]) (mvT hZ (hw _ (List.mem_of_getElem? (i := 11) rfl)))) (mvT hZ (hw _ (List.mem_of_getElem? (i := 11) rfl))) (mvT hZ (hw _ (List.mem_of_getElem? (i := 10) rfl))) (by decide) (backOf (W := 0) (own_r2_0 l Z a0 hw [] c0 c1 c2 c3 c4 c5 c6 h0 n0 Z0 K) hZ (hw _ (List.mem_of_getElem? (i := 12) rfl)) (hw _ (List.mem_of_getElem? (i := 6) rfl)) (by decide) (by decide)) q2a q2c (g := (mkF m 31 #[.val (.int p0), .val (.int (0 : Int32)), .val (.ref c0), .val (.int (0 : Int32)), .unset, .unset, .unset, .unset] [(.ref c0)])) rfl (by rw [hml]; rfl) (Steps.refl _) (argsL := []) (rest := []) (lenOf own_pd1 rfl) rfl (by show 2 * 0 + _ ≤ _; exact Nat.le_of_eq rfl) (hb hby at_31) (fun _ _ => ⟨rfl, e1, (by decide : 0 + 0 ≤ _), (by decide : 0 + 0 ≤ _)⟩)
  dsimp only [Pt.U, Pt.locs, Pt.cells, Pt.slots] at X2 l2 y2 z2 st2 hQ2
  subst l2 y2 z2
  obtain ⟨rfl, N2q, e2⟩ := hQ2
  have N2 := Fr.app N1 N2q
  obtain ⟨cq3, kq3, q3a, q3b, q3c⟩ := isOf hZ e2 E0
  obtain ⟨_, _, ⟨T3, L3, k3, n3⟩, -, X3, ⟨Lc3, hQ3, l3, y3, z3⟩, st3⟩ := X2.virtualBack hx (y := (⟨"com/example/wengao/wengao/mapping/AuditRole", "isStampedOnSave", "()Z"⟩ : MethodName)) (z := (⟨"com/example/wengao/wengao/mapping/AuditRole", "isStampedOnSave", "()Z"⟩ : MethodName)) hown (mvT hZ (hw _ (List.mem_of_getElem? (i := 17) rfl))) (mvT hZ (hw _ (List.mem_of_getElem? (i := 18) rfl))) (notFace_of_selects (args := #[]) (mvT hZ (hw _ (List.mem_of_getElem? (i := 20) rfl)))) (mvT hZ (hw _ (List.mem_of_getElem? (i := 20) rfl))) (mvT hZ (hw _ (List.mem_of_getElem? (i := 19) rfl))) (by decide) (backOf (W := 0) (own_r3_0 l Z a0 hw [] c0 c1 c2 c3 c4 c5 c6 h0 n0 Z0 K) hZ (hw _ (List.mem_of_getElem? (i := 21) rfl)) (hw _ (List.mem_of_getElem? (i := 6) rfl)) (by decide) (by decide)) q3a q3c (g := (mkF m 56 #[.val (.int p0), .val (.int (0 : Int32)), .val (.ref c0), .val (.int (0 : Int32)), .val (.int (0 : Int32)), .val (.int (1 : Int32)), .unset, .unset] [(.ref c0)])) rfl (by rw [hml]; rfl) (Steps.refl _) (argsL := []) (rest := []) (lenOf own_pd1 rfl) rfl (by show 2 * 0 + _ ≤ _; exact Nat.le_of_eq rfl) (hb hby at_56) (fun _ _ => ⟨rfl, e2, (by decide : 0 + 0 ≤ _), (by decide : 0 + 0 ≤ _)⟩)
  dsimp only [Pt.U, Pt.locs, Pt.cells, Pt.slots] at X3 l3 y3 z3 st3 hQ3
  subst l3 y3 z3
  obtain ⟨rfl, N3q, e3⟩ := hQ3
  have N3 := Fr.app N2 N3q
  obtain ⟨fs, hr, hrun, hended, hW, hsame⟩ := X3.leave (v := some (.int (1 : Int32))) (fun h => by rw [Bd.returns] at h; cases h)
  refine ⟨_, _, pre0 _ ?_, hrun, hended, _, _, rfl, ?_, ⟨_, rfl⟩, hW, hsame.mono (by decide) (by decide)⟩
  · show Steps p.tables e below (s₁.setTop (mkF m 0 #[.val (.int p0), .unset, .unset, .unset, .unset, .unset, .unset, .unset] [])) _
    refine XS.iloadN X0.here hx rfl (hb hby at_0) rfl ?_
    show Steps p.tables e below (s₁.setTop (mkF m 1 #[.val (.int p0), .unset, .unset, .unset, .unset, .unset, .unset, .unset] [(.int p0)])) _
    refine X0.ldcInt hx hown (mvT hZ (hw _ (List.mem_of_getElem? (i := 0) rfl))) (g := (mkF m 1 #[.val (.int p0), .unset, .unset, .unset, .unset, .unset, .unset, .unset] [(.int p0)])) rfl (hb hby at_1) _ ?_
    show Steps p.tables e below (s₁.setTop (mkF m 3 #[.val (.int p0), .unset, .unset, .unset, .unset, .unset, .unset, .unset] [(.int (2147483647 : Int32)), (.int p0)])) _
    refine XS.iand X0.here hx rfl (hb hby at_3) rfl ?_
    show Steps p.tables e below (s₁.setTop (mkF m 4 #[.val (.int p0), .unset, .unset, .unset, .unset, .unset, .unset, .unset] [(.int (p0 &&& (2147483647 : Int32)))])) _
    refine XS.bipush X0.here hx rfl (hb hby at_4) ?_
    show Steps p.tables e below (s₁.setTop (mkF m 6 #[.val (.int p0), .unset, .unset, .unset, .unset, .unset, .unset, .unset] [(.int (7 : Int32)), (.int (p0 &&& (2147483647 : Int32)))])) _
    refine iremM X0 hx rfl (hb hby at_6) rfl (by decide) ?_
    show Steps p.tables e below (s₁.setTop (mkF m 7 #[.val (.int p0), .unset, .unset, .unset, .unset, .unset, .unset, .unset] [(.int ((p0 &&& (2147483647 : Int32)) % (7 : Int32)))])) _
    rw [hk0]
    show Steps p.tables e below (s₁.setTop (mkF m 7 #[.val (.int p0), .unset, .unset, .unset, .unset, .unset, .unset, .unset] [(.int (0 : Int32))])) _
    refine XS.istoreN X0.here hx rfl (hb hby at_7) rfl (l' := #[.val (.int p0), .val (.int (0 : Int32)), .unset, .unset, .unset, .unset, .unset, .unset]) rfl ?_
    show Steps p.tables e below (s₁.setTop (mkF m 8 #[.val (.int p0), .val (.int (0 : Int32)), .unset, .unset, .unset, .unset, .unset, .unset] [])) _
    refine XS.iloadN X0.here hx rfl (hb hby at_8) rfl ?_
    show Steps p.tables e below (s₁.setTop (mkF m 9 #[.val (.int p0), .val (.int (0 : Int32)), .unset, .unset, .unset, .unset, .unset, .unset] [(.int (0 : Int32))])) _
    refine st1 _ ?_
    show Steps p.tables e below (T1.setTop (mkF m 12 #[.val (.int p0), .val (.int (0 : Int32)), .unset, .unset, .unset, .unset, .unset, .unset] [(.ref c0)])) _
    refine XS.astoreN X1.here hx rfl (hb hby at_12) rfl rfl (l' := #[.val (.int p0), .val (.int (0 : Int32)), .val (.ref c0), .unset, .unset, .unset, .unset, .unset]) rfl ?_
    show Steps p.tables e below (T1.setTop (mkF m 13 #[.val (.int p0), .val (.int (0 : Int32)), .val (.ref c0), .unset, .unset, .unset, .unset, .unset] [])) _
    refine XS.iloadN X1.here hx rfl (hb hby at_13) rfl ?_
    show Steps p.tables e below (T1.setTop (mkF m 14 #[.val (.int p0), .val (.int (0 : Int32)), .val (.ref c0), .unset, .unset, .unset, .unset, .unset] [(.int (0 : Int32))])) _
    refine XS.iconst X1.here hx rfl (hb hby at_14) ?_
    show Steps p.tables e below (T1.setTop (mkF m 15 #[.val (.int p0), .val (.int (0 : Int32)), .val (.ref c0), .unset, .unset, .unset, .unset, .unset] [(.int (5 : Int32)), (.int (0 : Int32))])) _
    refine XS.icmpNo X1.here hx rfl (hb hby at_15) rfl (feq (by decide : ¬ ((0 : Int32) = (5 : Int32)))).1 ?_
    show Steps p.tables e below (T1.setTop (mkF m 18 #[.val (.int p0), .val (.int (0 : Int32)), .val (.ref c0), .unset, .unset, .unset, .unset, .unset] [])) _
    refine XS.iloadN X1.here hx rfl (hb hby at_18) rfl ?_
    show Steps p.tables e below (T1.setTop (mkF m 19 #[.val (.int p0), .val (.int (0 : Int32)), .val (.ref c0), .unset, .unset, .unset, .unset, .unset] [(.int (0 : Int32))])) _
    refine XS.bipush X1.here hx rfl (hb hby at_19) ?_
    show Steps p.tables e below (T1.setTop (mkF m 21 #[.val (.int p0), .val (.int (0 : Int32)), .val (.ref c0), .unset, .unset, .unset, .unset, .unset] [(.int (6 : Int32)), (.int (0 : Int32))])) _
    refine XS.icmpYes X1.here hx rfl (pc0 := 21) (pc' := 28) rfl (hb hby at_21) rfl (feq (by decide : ¬ ((0 : Int32) = (6 : Int32)))).2 (by decide) (by decide) ?_
    show Steps p.tables e below (T1.setTop (mkF m 28 #[.val (.int p0), .val (.int (0 : Int32)), .val (.ref c0), .unset, .unset, .unset, .unset, .unset] [])) _
    refine XS.iconst X1.here hx rfl (hb hby at_28) ?_
    show Steps p.tables e below (T1.setTop (mkF m 29 #[.val (.int p0), .val (.int (0 : Int32)), .val (.ref c0), .unset, .unset, .unset, .unset, .unset] [(.int (0 : Int32))])) _
    refine XS.istoreN X1.here hx rfl (hb hby at_29) rfl (l' := #[.val (.int p0), .val (.int (0 : Int32)), .val (.ref c0), .val (.int (0 : Int32)), .unset, .unset, .unset, .unset]) rfl ?_
    show Steps p.tables e below (T1.setTop (mkF m 30 #[.val (.int p0), .val (.int (0 : Int32)), .val (.ref c0), .val (.int (0 : Int32)), .unset, .unset, .unset, .unset] [])) _
    refine XS.aloadN X1.here hx rfl (hb hby at_30) rfl rfl ?_
    show Steps p.tables e below (T1.setTop (mkF m 31 #[.val (.int p0), .val (.int (0 : Int32)), .val (.ref c0), .val (.int (0 : Int32)), .unset, .unset, .unset, .unset] [(.ref c0)])) _
    refine st2.trans ?_
    show Steps p.tables e below (T2.setTop (mkF m 34 #[.val (.int p0), .val (.int (0 : Int32)), .val (.ref c0), .val (.int (0 : Int32)), .unset, .unset, .unset, .unset] [(.int (0 : Int32))])) _
    refine XS.istore X2.here hx rfl (hb hby at_34) rfl (l' := #[.val (.int p0), .val (.int (0 : Int32)), .val (.ref c0), .val (.int (0 : Int32)), .val (.int (0 : Int32)), .unset, .unset, .unset]) rfl ?_
    show Steps p.tables e below (T2.setTop (mkF m 36 #[.val (.int p0), .val (.int (0 : Int32)), .val (.ref c0), .val (.int (0 : Int32)), .val (.int (0 : Int32)), .unset, .unset, .unset] [])) _
    refine XS.iload X2.here hx rfl (hb hby at_36) rfl ?_
    show Steps p.tables e below (T2.setTop (mkF m 38 #[.val (.int p0), .val (.int (0 : Int32)), .val (.ref c0), .val (.int (0 : Int32)), .val (.int (0 : Int32)), .unset, .unset, .unset] [(.int (0 : Int32))])) _
    refine XS.iloadN X2.here hx rfl (hb hby at_38) rfl ?_
    show Steps p.tables e below (T2.setTop (mkF m 39 #[.val (.int p0), .val (.int (0 : Int32)), .val (.ref c0), .val (.int (0 : Int32)), .val (.int (0 : Int32)), .unset, .unset, .unset] [(.int (0 : Int32)), (.int (0 : Int32))])) _
    refine XS.icmpYes X2.here hx rfl (pc0 := 39) (pc' := 44) rfl (hb hby at_39) rfl (teq (by decide : (0 : Int32) = (0 : Int32))).1 (by decide) (by decide) ?_
    show Steps p.tables e below (T2.setTop (mkF m 44 #[.val (.int p0), .val (.int (0 : Int32)), .val (.ref c0), .val (.int (0 : Int32)), .val (.int (0 : Int32)), .unset, .unset, .unset] [])) _
    refine XS.iloadN X2.here hx rfl (hb hby at_44) rfl ?_
    show Steps p.tables e below (T2.setTop (mkF m 45 #[.val (.int p0), .val (.int (0 : Int32)), .val (.ref c0), .val (.int (0 : Int32)), .val (.int (0 : Int32)), .unset, .unset, .unset] [(.int (0 : Int32))])) _
    refine XS.ifNo X2.here hx rfl (hb hby at_45) rfl ((if0 _ _).trans (teq (by decide : (0 : Int32) = (0 : Int32))).2) ?_
    show Steps p.tables e below (T2.setTop (mkF m 48 #[.val (.int p0), .val (.int (0 : Int32)), .val (.ref c0), .val (.int (0 : Int32)), .val (.int (0 : Int32)), .unset, .unset, .unset] [])) _
    refine XS.iconst X2.here hx rfl (hb hby at_48) ?_
    show Steps p.tables e below (T2.setTop (mkF m 49 #[.val (.int p0), .val (.int (0 : Int32)), .val (.ref c0), .val (.int (0 : Int32)), .val (.int (0 : Int32)), .unset, .unset, .unset] [(.int (1 : Int32))])) _
    refine XS.goto X2.here hx rfl (pc0 := 49) (pc' := 53) rfl (hb hby at_49) (by decide) (by decide) ?_
    show Steps p.tables e below (T2.setTop (mkF m 53 #[.val (.int p0), .val (.int (0 : Int32)), .val (.ref c0), .val (.int (0 : Int32)), .val (.int (0 : Int32)), .unset, .unset, .unset] [(.int (1 : Int32))])) _
    refine XS.istore X2.here hx rfl (hb hby at_53) rfl (l' := #[.val (.int p0), .val (.int (0 : Int32)), .val (.ref c0), .val (.int (0 : Int32)), .val (.int (0 : Int32)), .val (.int (1 : Int32)), .unset, .unset]) rfl ?_
    show Steps p.tables e below (T2.setTop (mkF m 55 #[.val (.int p0), .val (.int (0 : Int32)), .val (.ref c0), .val (.int (0 : Int32)), .val (.int (0 : Int32)), .val (.int (1 : Int32)), .unset, .unset] [])) _
    refine XS.aloadN X2.here hx rfl (hb hby at_55) rfl rfl ?_
    show Steps p.tables e below (T2.setTop (mkF m 56 #[.val (.int p0), .val (.int (0 : Int32)), .val (.ref c0), .val (.int (0 : Int32)), .val (.int (0 : Int32)), .val (.int (1 : Int32)), .unset, .unset] [(.ref c0)])) _
    refine st3.trans ?_
    show Steps p.tables e below (T3.setTop (mkF m 59 #[.val (.int p0), .val (.int (0 : Int32)), .val (.ref c0), .val (.int (0 : Int32)), .val (.int (0 : Int32)), .val (.int (1 : Int32)), .unset, .unset] [(.int (0 : Int32))])) _
    refine XS.istore X3.here hx rfl (hb hby at_59) rfl (l' := #[.val (.int p0), .val (.int (0 : Int32)), .val (.ref c0), .val (.int (0 : Int32)), .val (.int (0 : Int32)), .val (.int (1 : Int32)), .val (.int (0 : Int32)), .unset]) rfl ?_
    show Steps p.tables e below (T3.setTop (mkF m 61 #[.val (.int p0), .val (.int (0 : Int32)), .val (.ref c0), .val (.int (0 : Int32)), .val (.int (0 : Int32)), .val (.int (1 : Int32)), .val (.int (0 : Int32)), .unset] [])) _
    refine XS.iload X3.here hx rfl (hb hby at_61) rfl ?_
    show Steps p.tables e below (T3.setTop (mkF m 63 #[.val (.int p0), .val (.int (0 : Int32)), .val (.ref c0), .val (.int (0 : Int32)), .val (.int (0 : Int32)), .val (.int (1 : Int32)), .val (.int (0 : Int32)), .unset] [(.int (1 : Int32))])) _
    refine XS.ifNo X3.here hx rfl (hb hby at_63) rfl ((if0 _ _).trans (feq (by decide : ¬ ((1 : Int32) = (0 : Int32)))).1) ?_
    show Steps p.tables e below (T3.setTop (mkF m 66 #[.val (.int p0), .val (.int (0 : Int32)), .val (.ref c0), .val (.int (0 : Int32)), .val (.int (0 : Int32)), .val (.int (1 : Int32)), .val (.int (0 : Int32)), .unset] [])) _
    refine XS.iconst X3.here hx rfl (hb hby at_66) ?_
    show Steps p.tables e below (T3.setTop (mkF m 67 #[.val (.int p0), .val (.int (0 : Int32)), .val (.ref c0), .val (.int (0 : Int32)), .val (.int (0 : Int32)), .val (.int (1 : Int32)), .val (.int (0 : Int32)), .unset] [(.int (1 : Int32))])) _
    refine XS.goto X3.here hx rfl (pc0 := 67) (pc' := 71) rfl (hb hby at_67) (by decide) (by decide) ?_
    show Steps p.tables e below (T3.setTop (mkF m 71 #[.val (.int p0), .val (.int (0 : Int32)), .val (.ref c0), .val (.int (0 : Int32)), .val (.int (0 : Int32)), .val (.int (1 : Int32)), .val (.int (0 : Int32)), .unset] [(.int (1 : Int32))])) _
    refine XS.iload X3.here hx rfl (hb hby at_71) rfl ?_
    show Steps p.tables e below (T3.setTop (mkF m 73 #[.val (.int p0), .val (.int (0 : Int32)), .val (.ref c0), .val (.int (0 : Int32)), .val (.int (0 : Int32)), .val (.int (1 : Int32)), .val (.int (0 : Int32)), .unset] [(.int (0 : Int32)), (.int (1 : Int32))])) _
    refine XS.ifYes X3.here hx rfl (pc0 := 73) (pc' := 80) rfl (hb hby at_73) rfl ((if0 _ _).trans (teq (by decide : (0 : Int32) = (0 : Int32))).1) (by decide) (by decide) ?_
    show Steps p.tables e below (T3.setTop (mkF m 80 #[.val (.int p0), .val (.int (0 : Int32)), .val (.ref c0), .val (.int (0 : Int32)), .val (.int (0 : Int32)), .val (.int (1 : Int32)), .val (.int (0 : Int32)), .unset] [(.int (1 : Int32))])) _
    refine XS.iconst X3.here hx rfl (hb hby at_80) ?_
    show Steps p.tables e below (T3.setTop (mkF m 81 #[.val (.int p0), .val (.int (0 : Int32)), .val (.ref c0), .val (.int (0 : Int32)), .val (.int (0 : Int32)), .val (.int (1 : Int32)), .val (.int (0 : Int32)), .unset] [(.int (0 : Int32)), (.int (1 : Int32))])) _
    refine XS.iadd X3.here hx rfl (hb hby at_81) rfl ?_
    show Steps p.tables e below (T3.setTop (mkF m 82 #[.val (.int p0), .val (.int (0 : Int32)), .val (.ref c0), .val (.int (0 : Int32)), .val (.int (0 : Int32)), .val (.int (1 : Int32)), .val (.int (0 : Int32)), .unset] [(.int ((1 : Int32) + (0 : Int32)))])) _
    refine XS.iload X3.here hx rfl (hb hby at_82) rfl ?_
    show Steps p.tables e below (T3.setTop (mkF m 84 #[.val (.int p0), .val (.int (0 : Int32)), .val (.ref c0), .val (.int (0 : Int32)), .val (.int (0 : Int32)), .val (.int (1 : Int32)), .val (.int (0 : Int32)), .unset] [(.int (0 : Int32)), (.int ((1 : Int32) + (0 : Int32)))])) _
    refine XS.ifYes X3.here hx rfl (pc0 := 84) (pc' := 91) rfl (hb hby at_84) rfl ((if0 _ _).trans (teq (by decide : (0 : Int32) = (0 : Int32))).1) (by decide) (by decide) ?_
    show Steps p.tables e below (T3.setTop (mkF m 91 #[.val (.int p0), .val (.int (0 : Int32)), .val (.ref c0), .val (.int (0 : Int32)), .val (.int (0 : Int32)), .val (.int (1 : Int32)), .val (.int (0 : Int32)), .unset] [(.int ((1 : Int32) + (0 : Int32)))])) _
    refine XS.iconst X3.here hx rfl (hb hby at_91) ?_
    show Steps p.tables e below (T3.setTop (mkF m 92 #[.val (.int p0), .val (.int (0 : Int32)), .val (.ref c0), .val (.int (0 : Int32)), .val (.int (0 : Int32)), .val (.int (1 : Int32)), .val (.int (0 : Int32)), .unset] [(.int (0 : Int32)), (.int ((1 : Int32) + (0 : Int32)))])) _
    refine XS.iadd X3.here hx rfl (hb hby at_92) rfl ?_
    show Steps p.tables e below (T3.setTop (mkF m 93 #[.val (.int p0), .val (.int (0 : Int32)), .val (.ref c0), .val (.int (0 : Int32)), .val (.int (0 : Int32)), .val (.int (1 : Int32)), .val (.int (0 : Int32)), .unset] [(.int (((1 : Int32) + (0 : Int32)) + (0 : Int32)))])) _
    refine XS.istore X3.here hx rfl (hb hby at_93) rfl (l' := #[.val (.int p0), .val (.int (0 : Int32)), .val (.ref c0), .val (.int (0 : Int32)), .val (.int (0 : Int32)), .val (.int (1 : Int32)), .val (.int (0 : Int32)), .val (.int (((1 : Int32) + (0 : Int32)) + (0 : Int32)))]) rfl ?_
    show Steps p.tables e below (T3.setTop (mkF m 95 #[.val (.int p0), .val (.int (0 : Int32)), .val (.ref c0), .val (.int (0 : Int32)), .val (.int (0 : Int32)), .val (.int (1 : Int32)), .val (.int (0 : Int32)), .val (.int (((1 : Int32) + (0 : Int32)) + (0 : Int32)))] [])) _
    refine XS.iload X3.here hx rfl (hb hby at_95) rfl ?_
    show Steps p.tables e below (T3.setTop (mkF m 97 #[.val (.int p0), .val (.int (0 : Int32)), .val (.ref c0), .val (.int (0 : Int32)), .val (.int (0 : Int32)), .val (.int (1 : Int32)), .val (.int (0 : Int32)), .val (.int (((1 : Int32) + (0 : Int32)) + (0 : Int32)))] [(.int (((1 : Int32) + (0 : Int32)) + (0 : Int32)))])) _
    refine XS.iconst X3.here hx rfl (hb hby at_97) ?_
    show Steps p.tables e below (T3.setTop (mkF m 98 #[.val (.int p0), .val (.int (0 : Int32)), .val (.ref c0), .val (.int (0 : Int32)), .val (.int (0 : Int32)), .val (.int (1 : Int32)), .val (.int (0 : Int32)), .val (.int (((1 : Int32) + (0 : Int32)) + (0 : Int32)))] [(.int (1 : Int32)), (.int (((1 : Int32) + (0 : Int32)) + (0 : Int32)))])) _
    refine XS.icmpNo X3.here hx rfl (hb hby at_98) rfl (teq (by decide : (((1 : Int32) + (0 : Int32)) + (0 : Int32)) = (1 : Int32))).2 ?_
    show Steps p.tables e below (T3.setTop (mkF m 101 #[.val (.int p0), .val (.int (0 : Int32)), .val (.ref c0), .val (.int (0 : Int32)), .val (.int (0 : Int32)), .val (.int (1 : Int32)), .val (.int (0 : Int32)), .val (.int (((1 : Int32) + (0 : Int32)) + (0 : Int32)))] [])) _
    refine XS.iconst X3.here hx rfl (hb hby at_101) ?_
    show Steps p.tables e below (T3.setTop (mkF m 102 #[.val (.int p0), .val (.int (0 : Int32)), .val (.ref c0), .val (.int (0 : Int32)), .val (.int (0 : Int32)), .val (.int (1 : Int32)), .val (.int (0 : Int32)), .val (.int (((1 : Int32) + (0 : Int32)) + (0 : Int32)))] [(.int (1 : Int32))])) _
    refine XS.goto X3.here hx rfl (pc0 := 102) (pc' := 106) rfl (hb hby at_102) (by decide) (by decide) ?_
    show Steps p.tables e below (T3.setTop (mkF m 106 #[.val (.int p0), .val (.int (0 : Int32)), .val (.ref c0), .val (.int (0 : Int32)), .val (.int (0 : Int32)), .val (.int (1 : Int32)), .val (.int (0 : Int32)), .val (.int (((1 : Int32) + (0 : Int32)) + (0 : Int32)))] [(.int (1 : Int32))])) _
    exact retN X3 hx (t := .boolean) Bd.returns (by simp) (hb hby at_106) hr
  · show own_Q _ h0 n0 _ T3.heap _
    exact ⟨rfl, N3, e3⟩
theorem own_d1_8 : decode method_3_code 8 = .ok (.iload_n 0, 1) := by decide +kernel
theorem own_d1_9 : decode method_3_code 9 = .ok (.iconst 1, 1) := by decide +kernel
theorem own_d1_10 : decode method_3_code 10 = .ok (.if_icmp .ne 7, 3) := by decide +kernel
theorem own_d1_13 : decode method_3_code 13 = .ok (.getstatic 27, 3) := by decide +kernel
theorem own_d1_16 : decode method_3_code 16 = .ok (.areturn, 1) := by decide +kernel
set_option maxRecDepth 65536 in
set_option maxHeartbeats 40000000 in
theorem own_r1_1 (l : Launch) (Z : State) (a0 : Array Value) (hw : ∀ d ∈ tables_1, d.before a0 Z = true) (ws : List Jvm.Cond)  (c0 c1 c2 c3 c4 c5 c6 : Addr) (h0 : Heap) (n0 : Nat) (Z0 : n0 ≤ h0.size) (K : own_W Z h0 c0 c1 c2 c3 c4 c5 c6)  :
    MetFree l (⟨"com/example/wengao/wengao/mapping/AuditRoleIsStampedOnDeletePinLaw", "pick", "(I)Lcom/example/wengao/wengao/mapping/AuditRole;"⟩ : MethodName) (head1 (Jvm.Cond.code (⟨"com/example/wengao/wengao/mapping/AuditRoleIsStampedOnDeletePinLaw", "pick", "(I)Lcom/example/wengao/wengao/mapping/AuditRole;"⟩ : MethodName) method_3_code 1 (some (.object "com/example/wengao/wengao/mapping/AuditRole")) :: ws) ({ frames := 0, cells := 0, slots := 0, locals := 0 } : Room)) (fun a U => a = #[(.int (1 : Int32))] ∧ Z.Warmed39 U.vm ∧ U.heap = h0) (fun _ _ _ _ _ => True) (fun _ U o U' => ∃ v L, o = .returned v ∧ own_Q (.ref c6) h0 n0 v U'.heap L ∧ FrameEnd U o U' L ({ frames := 0, cells := 0, slots := 0, locals := 0 } : Room).cells ({ frames := 0, cells := 0, slots := 0, locals := 0 } : Room).slots) := by
  have K' := K
  obtain ⟨S0, E0, S1, E1, S2, E2, S3, E3, S4, E4, S5, E5, S6, E6, F0, F1, F2, F3, F4, F5, F6⟩ := K'
  refine MetFree.of_bodySF (plainFor_of_name own_pn0) hisR ?_
  intro p e s m args below meth c s₁ Bd hml0 hP hK
  obtain ⟨rfl, hZ, hh⟩ := hP
  have hx := Bd.exec
  have hby := Bd.bytes
  have hml : c.maxLocals = 1 := hml0
  have hown : s.vm.findClass "com/example/wengao/wengao/mapping/AuditRoleIsStampedOnDeletePinLaw" = some m.cls := findClass_of_methodNamed Bd.named
  have X0 : Stand p l e ({ frames := 0, cells := 0, slots := 0, locals := 0 } : Room) s m #[(.int (1 : Int32))] below meth c s₁ [] 0 0 := Stand.of_body Bd
  have e0 : s₁.heap = h0 := by rw [← hh, Bd.state]; rfl
  have N0 := Fr.nil n0
  have pre0 : ∀ t, Steps p.tables e below (s₁.setTop (mkF m 0 #[.val (.int (1 : Int32))] [])) t → Steps p.tables e below (s₁.setTop (entryFrame m #[(.int (1 : Int32))] 1)) t := fun t k => castTop (own_ef1 m (1 : Int32)) k
  obtain ⟨T1, X1, e1, st1⟩ := getS2 X0 hx hZ hown (host := "") (Or.inl (hw _ (List.mem_of_getElem? (i := 32) rfl))) Via.refl e0 S6 (g := (mkF m 13 #[.val (.int (1 : Int32))] [])) rfl (hb hby own_d1_13)
  obtain ⟨fs, hr, hrun, hended, hW, hsame⟩ := X1.leave (v := some (.ref c6)) (fun h => by rw [Bd.returns] at h; cases h)
  refine ⟨_, _, pre0 _ ?_, hrun, hended, _, _, rfl, ?_, ⟨_, rfl⟩, hW, hsame.mono (by decide) (by decide)⟩
  · show Steps p.tables e below (s₁.setTop (mkF m 0 #[.val (.int (1 : Int32))] [])) _
    refine XS.iloadN X0.here hx rfl (hb hby own_d1_0) rfl ?_
    show Steps p.tables e below (s₁.setTop (mkF m 1 #[.val (.int (1 : Int32))] [(.int (1 : Int32))])) _
    refine XS.ifYes X0.here hx rfl (pc0 := 1) (pc' := 8) rfl (hb hby own_d1_1) rfl ((if0 _ _).trans (feq (by decide : ¬ ((1 : Int32) = (0 : Int32)))).2) (by decide) (by decide) ?_
    show Steps p.tables e below (s₁.setTop (mkF m 8 #[.val (.int (1 : Int32))] [])) _
    refine XS.iloadN X0.here hx rfl (hb hby own_d1_8) rfl ?_
    show Steps p.tables e below (s₁.setTop (mkF m 9 #[.val (.int (1 : Int32))] [(.int (1 : Int32))])) _
    refine XS.iconst X0.here hx rfl (hb hby own_d1_9) ?_
    show Steps p.tables e below (s₁.setTop (mkF m 10 #[.val (.int (1 : Int32))] [(.int (1 : Int32)), (.int (1 : Int32))])) _
    refine XS.icmpNo X0.here hx rfl (hb hby own_d1_10) rfl (teq (by decide : (1 : Int32) = (1 : Int32))).2 ?_
    show Steps p.tables e below (s₁.setTop (mkF m 13 #[.val (.int (1 : Int32))] [])) _
    refine st1 _ ?_
    show Steps p.tables e below (T1.setTop (mkF m 16 #[.val (.int (1 : Int32))] [(.ref c6)])) _
    jvm_step X1.here [X1.here.top, hx, (hb hby own_d1_16), X1.method', Bd.returns, Value.isRef, FieldType.isReference]
    first | (intro acts; rw [hr _ acts rfl rfl rfl]) | rw [hr _ _ rfl rfl rfl]
    exact Steps.refl _
  · show own_Q _ h0 n0 _ T1.heap _
    exact ⟨rfl, N0, e1⟩
set_option maxRecDepth 65536 in
set_option maxHeartbeats 40000000 in
theorem own_r2_1 (l : Launch) (Z : State) (a0 : Array Value) (hw : ∀ d ∈ tables_1, d.before a0 Z = true) (ws : List Jvm.Cond)  (c0 c1 c2 c3 c4 c5 c6 : Addr) (h0 : Heap) (n0 : Nat) (Z0 : n0 ≤ h0.size) (K : own_W Z h0 c0 c1 c2 c3 c4 c5 c6)  :
    MetFree l (⟨"com/example/wengao/wengao/mapping/AuditRole", "isStampedOnDelete", "()Z"⟩ : MethodName) (head1 (Jvm.Cond.code (⟨"com/example/wengao/wengao/mapping/AuditRole", "isStampedOnDelete", "()Z"⟩ : MethodName) prog_21_method_9_code 1 (some .boolean) :: ws) ({ frames := 0, cells := 0, slots := 0, locals := 0 } : Room)) (fun a U => a = #[(.ref c6)] ∧ Z.Warmed39 U.vm ∧ U.heap = h0) (fun _ _ _ _ _ => True) (fun _ U o U' => ∃ v L, o = .returned v ∧ own_Q (.int (0 : Int32)) h0 n0 v U'.heap L ∧ FrameEnd U o U' L ({ frames := 0, cells := 0, slots := 0, locals := 0 } : Room).cells ({ frames := 0, cells := 0, slots := 0, locals := 0 } : Room).slots) := by
  have K' := K
  obtain ⟨S0, E0, S1, E1, S2, E2, S3, E3, S4, E4, S5, E5, S6, E6, F0, F1, F2, F3, F4, F5, F6⟩ := K'
  have ne_6_1 : ¬ (c6 = c1) := (Fld.ne F6 F1 (fun q => absurd (Value.int.inj q) (by decide)))
  have ne_6_2 : ¬ (c6 = c2) := (Fld.ne F6 F2 (fun q => absurd (Value.int.inj q) (by decide)))
  refine MetFree.of_bodySF (plainFor_of_name own_pn1) hisR ?_
  intro p e s m args below meth c s₁ Bd hml0 hP hK
  obtain ⟨rfl, hZ, hh⟩ := hP
  have hx := Bd.exec
  have hby := Bd.bytes
  have hml : c.maxLocals = 1 := hml0
  have hown : s.vm.findClass "com/example/wengao/wengao/mapping/AuditRole" = some m.cls := findClass_of_methodNamed Bd.named
  have X0 : Stand p l e ({ frames := 0, cells := 0, slots := 0, locals := 0 } : Room) s m #[(.ref c6)] below meth c s₁ [] 0 0 := Stand.of_body Bd
  have e0 : s₁.heap = h0 := by rw [← hh, Bd.state]; rfl
  have N0 := Fr.nil n0
  have pre0 : ∀ t, Steps p.tables e below (s₁.setTop (mkF m 0 #[.val (.ref c6)] [])) t → Steps p.tables e below (s₁.setTop (entryFrame m #[(.ref c6)] 1)) t := fun t k => castTop (own_ef2 m c6) k
  obtain ⟨T1, X1, e1, st1⟩ := getS2 X0 hx hZ hown (host := "") (Or.inl (hw _ (List.mem_of_getElem? (i := 13) rfl))) Via.refl e0 S1 (g := (mkF m 1 #[.val (.ref c6)] [(.ref c6)])) rfl (hb hby own_d2_1)
  obtain ⟨T2, X2, e2, st2⟩ := getS2 X1 hx hZ hown (host := "") (Or.inl (hw _ (List.mem_of_getElem? (i := 15) rfl))) Via.refl e1 S2 (g := (mkF m 8 #[.val (.ref c6)] [(.ref c6)])) rfl (hb hby own_d2_8)
  obtain ⟨fs, hr, hrun, hended, hW, hsame⟩ := X2.leave (v := some (.int (0 : Int32))) (fun h => by rw [Bd.returns] at h; cases h)
  refine ⟨_, _, pre0 _ ?_, hrun, hended, _, _, rfl, ?_, ⟨_, rfl⟩, hW, hsame.mono (by decide) (by decide)⟩
  · show Steps p.tables e below (s₁.setTop (mkF m 0 #[.val (.ref c6)] [])) _
    refine XS.aloadN X0.here hx rfl (hb hby own_d2_0) rfl rfl ?_
    show Steps p.tables e below (s₁.setTop (mkF m 1 #[.val (.ref c6)] [(.ref c6)])) _
    refine st1 _ ?_
    show Steps p.tables e below (T1.setTop (mkF m 4 #[.val (.ref c6)] [(.ref c1), (.ref c6)])) _
    refine Jvm.RoadKit.acmp (g := (mkF m 4 #[.val (.ref c6)] [(.ref c1), (.ref c6)])) X1 hx rfl rfl rfl (pc0 := 4) (pc' := 7) (same := false) rfl (hb hby own_d2_4) rfl (decide_eq_false fun q => ne_6_1 (Value.ref.inj q)) (by decide) (by decide) ?_
    show Steps p.tables e below (T1.setTop (mkF m 7 #[.val (.ref c6)] [])) _
    refine XS.aloadN X1.here hx rfl (hb hby own_d2_7) rfl rfl ?_
    show Steps p.tables e below (T1.setTop (mkF m 8 #[.val (.ref c6)] [(.ref c6)])) _
    refine st2 _ ?_
    show Steps p.tables e below (T2.setTop (mkF m 11 #[.val (.ref c6)] [(.ref c2), (.ref c6)])) _
    refine Jvm.RoadKit.acmp (g := (mkF m 11 #[.val (.ref c6)] [(.ref c2), (.ref c6)])) X2 hx rfl rfl rfl (pc0 := 11) (pc' := 18) (same := false) rfl (hb hby own_d2_11) rfl (decide_eq_false fun q => ne_6_2 (Value.ref.inj q)) (by decide) (by decide) ?_
    show Steps p.tables e below (T2.setTop (mkF m 18 #[.val (.ref c6)] [])) _
    refine XS.iconst X2.here hx rfl (hb hby own_d2_18) ?_
    show Steps p.tables e below (T2.setTop (mkF m 19 #[.val (.ref c6)] [(.int (0 : Int32))])) _
    exact retN X2 hx (t := .boolean) Bd.returns (by simp) (hb hby own_d2_19) hr
  · show own_Q _ h0 n0 _ T2.heap _
    exact ⟨rfl, N0, e2⟩
theorem own_d3_7 : decode prog_21_method_7_code 7 = .ok (.aload_n 0, 1) := by decide +kernel
theorem own_d3_8 : decode prog_21_method_7_code 8 = .ok (.invokevirtual 73, 3) := by decide +kernel
theorem own_d3_11 : decode prog_21_method_7_code 11 = .ok (.ifCond .ne 7, 3) := by decide +kernel
theorem own_d3_14 : decode prog_21_method_7_code 14 = .ok (.iconst 1, 1) := by decide +kernel
theorem own_d3_15 : decode prog_21_method_7_code 15 = .ok (.goto 4, 3) := by decide +kernel
set_option maxRecDepth 65536 in
set_option maxHeartbeats 40000000 in
theorem own_r3_1 (l : Launch) (Z : State) (a0 : Array Value) (hw : ∀ d ∈ tables_1, d.before a0 Z = true) (ws : List Jvm.Cond)  (c0 c1 c2 c3 c4 c5 c6 : Addr) (h0 : Heap) (n0 : Nat) (Z0 : n0 ≤ h0.size) (K : own_W Z h0 c0 c1 c2 c3 c4 c5 c6)  :
    MetFree l (⟨"com/example/wengao/wengao/mapping/AuditRole", "isStampedOnSave", "()Z"⟩ : MethodName) (head1 (Jvm.Cond.code (⟨"com/example/wengao/wengao/mapping/AuditRole", "isStampedOnSave", "()Z"⟩ : MethodName) prog_21_method_7_code 1 (some .boolean) :: ws) ({ frames := 1, cells := 0, slots := 0, locals := 12 } : Room)) (fun a U => a = #[(.ref c6)] ∧ Z.Warmed39 U.vm ∧ U.heap = h0) (fun _ _ _ _ _ => True) (fun _ U o U' => ∃ v L, o = .returned v ∧ own_Q (.int (1 : Int32)) h0 n0 v U'.heap L ∧ FrameEnd U o U' L ({ frames := 1, cells := 0, slots := 0, locals := 12 } : Room).cells ({ frames := 1, cells := 0, slots := 0, locals := 12 } : Room).slots) := by
  have K' := K
  obtain ⟨S0, E0, S1, E1, S2, E2, S3, E3, S4, E4, S5, E5, S6, E6, F0, F1, F2, F3, F4, F5, F6⟩ := K'
  have ne_6_0 : ¬ (c6 = c0) := (Fld.ne F6 F0 (fun q => absurd (Value.int.inj q) (by decide)))
  refine MetFree.of_bodySF (plainFor_of_name own_pn1) hisR ?_
  intro p e s m args below meth c s₁ Bd hml0 hP hK
  obtain ⟨rfl, hZ, hh⟩ := hP
  have hx := Bd.exec
  have hby := Bd.bytes
  have hml : c.maxLocals = 1 := hml0
  have hown : s.vm.findClass "com/example/wengao/wengao/mapping/AuditRole" = some m.cls := findClass_of_methodNamed Bd.named
  have X0 : Stand p l e ({ frames := 1, cells := 0, slots := 0, locals := 12 } : Room) s m #[(.ref c6)] below meth c s₁ [] 0 0 := Stand.of_body Bd
  have e0 : s₁.heap = h0 := by rw [← hh, Bd.state]; rfl
  have N0 := Fr.nil n0
  have pre0 : ∀ t, Steps p.tables e below (s₁.setTop (mkF m 0 #[.val (.ref c6)] [])) t → Steps p.tables e below (s₁.setTop (entryFrame m #[(.ref c6)] 1)) t := fun t k => castTop (own_ef3 m c6) k
  obtain ⟨T1, X1, e1, st1⟩ := getS2 X0 hx hZ hown (host := "") (Or.inl (hw _ (List.mem_of_getElem? (i := 22) rfl))) Via.refl e0 S0 (g := (mkF m 1 #[.val (.ref c6)] [(.ref c6)])) rfl (hb hby own_d3_1)
  obtain ⟨cq2, kq2, q2a, q2b, q2c⟩ := isOf hZ e1 E6
  obtain ⟨_, _, ⟨T2, L2, k2, n2⟩, -, X2, ⟨Lc2, hQ2, l2, y2, z2⟩, st2⟩ := X1.virtualBack hx (y := (⟨"com/example/wengao/wengao/mapping/AuditRole", "isStampedOnDelete", "()Z"⟩ : MethodName)) (z := (⟨"com/example/wengao/wengao/mapping/AuditRole", "isStampedOnDelete", "()Z"⟩ : MethodName)) hown (mvT hZ (hw _ (List.mem_of_getElem? (i := 25) rfl))) (mvT hZ (hw _ (List.mem_of_getElem? (i := 9) rfl))) (notFace_of_selects (args := #[]) (mvT hZ (hw _ (List.mem_of_getElem? (i := 11) rfl)))) (mvT hZ (hw _ (List.mem_of_getElem? (i := 11) rfl))) (mvT hZ (hw _ (List.mem_of_getElem? (i := 10) rfl))) (by decide) (backOf (W := 0) (own_r2_1 l Z a0 hw [] c0 c1 c2 c3 c4 c5 c6 h0 n0 Z0 K) hZ (hw _ (List.mem_of_getElem? (i := 12) rfl)) (hw _ (List.mem_of_getElem? (i := 6) rfl)) (by decide) (by decide)) q2a q2c (g := (mkF m 8 #[.val (.ref c6)] [(.ref c6)])) rfl (by rw [hml]; rfl) (Steps.refl _) (argsL := []) (rest := []) (lenOf own_pd1 rfl) rfl (by show 2 * 0 + _ ≤ _; exact Nat.le_of_eq rfl) (hb hby own_d3_8) (fun _ _ => ⟨rfl, e1, (by decide : 0 + 0 ≤ _), (by decide : 0 + 0 ≤ _)⟩)
  dsimp only [Pt.U, Pt.locs, Pt.cells, Pt.slots] at X2 l2 y2 z2 st2 hQ2
  subst l2 y2 z2
  obtain ⟨rfl, N2q, e2⟩ := hQ2
  have N2 := Fr.app N0 N2q
  obtain ⟨fs, hr, hrun, hended, hW, hsame⟩ := X2.leave (v := some (.int (1 : Int32))) (fun h => by rw [Bd.returns] at h; cases h)
  refine ⟨_, _, pre0 _ ?_, hrun, hended, _, _, rfl, ?_, ⟨_, rfl⟩, hW, hsame.mono (by decide) (by decide)⟩
  · show Steps p.tables e below (s₁.setTop (mkF m 0 #[.val (.ref c6)] [])) _
    refine XS.aloadN X0.here hx rfl (hb hby own_d3_0) rfl rfl ?_
    show Steps p.tables e below (s₁.setTop (mkF m 1 #[.val (.ref c6)] [(.ref c6)])) _
    refine st1 _ ?_
    show Steps p.tables e below (T1.setTop (mkF m 4 #[.val (.ref c6)] [(.ref c0), (.ref c6)])) _
    refine Jvm.RoadKit.acmp (g := (mkF m 4 #[.val (.ref c6)] [(.ref c0), (.ref c6)])) X1 hx rfl rfl rfl (pc0 := 4) (pc' := 7) (same := false) rfl (hb hby own_d3_4) rfl (decide_eq_false fun q => ne_6_0 (Value.ref.inj q)) (by decide) (by decide) ?_
    show Steps p.tables e below (T1.setTop (mkF m 7 #[.val (.ref c6)] [])) _
    refine XS.aloadN X1.here hx rfl (hb hby own_d3_7) rfl rfl ?_
    show Steps p.tables e below (T1.setTop (mkF m 8 #[.val (.ref c6)] [(.ref c6)])) _
    refine st2.trans ?_
    show Steps p.tables e below (T2.setTop (mkF m 11 #[.val (.ref c6)] [(.int (0 : Int32))])) _
    refine XS.ifNo X2.here hx rfl (hb hby own_d3_11) rfl ((if0 _ _).trans (teq (by decide : (0 : Int32) = (0 : Int32))).2) ?_
    show Steps p.tables e below (T2.setTop (mkF m 14 #[.val (.ref c6)] [])) _
    refine XS.iconst X2.here hx rfl (hb hby own_d3_14) ?_
    show Steps p.tables e below (T2.setTop (mkF m 15 #[.val (.ref c6)] [(.int (1 : Int32))])) _
    refine XS.goto X2.here hx rfl (pc0 := 15) (pc' := 19) rfl (hb hby own_d3_15) (by decide) (by decide) ?_
    show Steps p.tables e below (T2.setTop (mkF m 19 #[.val (.ref c6)] [(.int (1 : Int32))])) _
    exact retN X2 hx (t := .boolean) Bd.returns (by simp) (hb hby own_d3_19) hr
  · show own_Q _ h0 n0 _ T2.heap _
    exact ⟨rfl, N2, e2⟩
set_option maxRecDepth 65536 in
set_option maxHeartbeats 40000000 in
theorem own_r0_1 (l : Launch) (Z : State) (a0 : Array Value) (hw : ∀ d ∈ tables_1, d.before a0 Z = true) (ws : List Jvm.Cond) (p0 : Int32) (c0 c1 c2 c3 c4 c5 c6 : Addr) (h0 : Heap) (n0 : Nat) (Z0 : n0 ≤ h0.size) (K : own_W Z h0 c0 c1 c2 c3 c4 c5 c6) (hk0 : ((p0 &&& (2147483647 : Int32)) % (7 : Int32)) = (1 : Int32)) :
    MetFree l x (head1 (Jvm.Cond.code x code maxLocals ret :: ws) room_1) (fun a U => a = #[(.int p0)] ∧ Z.Warmed39 U.vm ∧ U.heap = h0) (fun _ _ _ _ _ => True) (fun _ U o U' => ∃ v L, o = .returned v ∧ own_Q (.int (1 : Int32)) h0 n0 v U'.heap L ∧ FrameEnd U o U' L room_1.cells room_1.slots) := by
  have K' := K
  obtain ⟨S0, E0, S1, E1, S2, E2, S3, E3, S4, E4, S5, E5, S6, E6, F0, F1, F2, F3, F4, F5, F6⟩ := K'
  refine MetFree.of_bodySF (plainFor_of_name own_pn0) hisR ?_
  intro p e s m args below meth c s₁ Bd hml0 hP hK
  obtain ⟨rfl, hZ, hh⟩ := hP
  have hx := Bd.exec
  have hby := Bd.bytes
  have hml : c.maxLocals = 8 := hml0
  have hown : s.vm.findClass "com/example/wengao/wengao/mapping/AuditRoleIsStampedOnDeletePinLaw" = some m.cls := findClass_of_methodNamed Bd.named
  have X0 : Stand p l e room_1 s m #[(.int p0)] below meth c s₁ [] 0 0 := Stand.of_body Bd
  have e0 : s₁.heap = h0 := by rw [← hh, Bd.state]; rfl
  have N0 := Fr.nil n0
  have pre0 : ∀ t, Steps p.tables e below (s₁.setTop (mkF m 0 #[.val (.int p0), .unset, .unset, .unset, .unset, .unset, .unset, .unset] [])) t → Steps p.tables e below (s₁.setTop (entryFrame m #[(.int p0)] maxLocals)) t := fun t k => castTop (own_ef0 m p0) k
  obtain ⟨_, _, ⟨T1, L1, k1, n1⟩, -, X1, ⟨Lc1, hQ1, l1, y1, z1⟩, st1⟩ := Jvm.LawKit.callS X0 hx (y := (⟨"com/example/wengao/wengao/mapping/AuditRoleIsStampedOnDeletePinLaw", "pick", "(I)Lcom/example/wengao/wengao/mapping/AuditRole;"⟩ : MethodName)) hown (mvT hZ (hw _ (List.mem_of_getElem? (i := 1) rfl))) (mvT hZ (hw _ (List.mem_of_getElem? (i := 2) rfl))) (mvT hZ (hw _ (List.mem_of_getElem? (i := 3) rfl))) (mvT hZ (hw _ (List.mem_of_getElem? (i := 4) rfl))) (by decide) (backOf (W := 0) (own_r1_1 l Z a0 hw [] c0 c1 c2 c3 c4 c5 c6 h0 n0 Z0 K) hZ (hw _ (List.mem_of_getElem? (i := 4) rfl)) (hw _ (List.mem_of_getElem? (i := 3) rfl)) (by decide) (by decide)) (g := (mkF m 9 #[.val (.int p0), .val (.int (1 : Int32)), .unset, .unset, .unset, .unset, .unset, .unset] [(.int (1 : Int32))])) rfl (by rw [hml]; rfl) (argsL := [(.int (1 : Int32))]) (rest := []) (lenOf own_pd0 rfl) rfl (by show 2 * 0 + _ ≤ _; exact Nat.le_of_eq rfl) (hb hby at_9) (fun _ _ => ⟨rfl, e0, (by decide : 0 + 0 ≤ _), (by decide : 0 + 0 ≤ _)⟩)
  dsimp only [Pt.U, Pt.locs, Pt.cells, Pt.slots] at X1 l1 y1 z1 st1 hQ1
  subst l1 y1 z1
  obtain ⟨rfl, N1q, e1⟩ := hQ1
  have N1 := Fr.app N0 N1q
  obtain ⟨cq2, kq2, q2a, q2b, q2c⟩ := isOf hZ e1 E6
  obtain ⟨_, _, ⟨T2, L2, k2, n2⟩, -, X2, ⟨Lc2, hQ2, l2, y2, z2⟩, st2⟩ := X1.virtualBack hx (y := (⟨"com/example/wengao/wengao/mapping/AuditRole", "isStampedOnDelete", "()Z"⟩ : MethodName)) (z := (⟨"com/example/wengao/wengao/mapping/AuditRole", "isStampedOnDelete", "()Z"⟩ : MethodName)) hown (mvT hZ (hw _ (List.mem_of_getElem? (i := 8) rfl))) (mvT hZ (hw _ (List.mem_of_getElem? (i := 9) rfl))) (notFace_of_selects (args := #[]) (mvT hZ (hw _ (List.mem_of_getElem? (i := 11) rfl)))) (mvT hZ (hw _ (List.mem_of_getElem? (i := 11) rfl))) (mvT hZ (hw _ (List.mem_of_getElem? (i := 10) rfl))) (by decide) (backOf (W := 0) (own_r2_1 l Z a0 hw [] c0 c1 c2 c3 c4 c5 c6 h0 n0 Z0 K) hZ (hw _ (List.mem_of_getElem? (i := 12) rfl)) (hw _ (List.mem_of_getElem? (i := 6) rfl)) (by decide) (by decide)) q2a q2c (g := (mkF m 31 #[.val (.int p0), .val (.int (1 : Int32)), .val (.ref c6), .val (.int (0 : Int32)), .unset, .unset, .unset, .unset] [(.ref c6)])) rfl (by rw [hml]; rfl) (Steps.refl _) (argsL := []) (rest := []) (lenOf own_pd1 rfl) rfl (by show 2 * 0 + _ ≤ _; exact Nat.le_of_eq rfl) (hb hby at_31) (fun _ _ => ⟨rfl, e1, (by decide : 0 + 0 ≤ _), (by decide : 0 + 0 ≤ _)⟩)
  dsimp only [Pt.U, Pt.locs, Pt.cells, Pt.slots] at X2 l2 y2 z2 st2 hQ2
  subst l2 y2 z2
  obtain ⟨rfl, N2q, e2⟩ := hQ2
  have N2 := Fr.app N1 N2q
  obtain ⟨cq3, kq3, q3a, q3b, q3c⟩ := isOf hZ e2 E6
  obtain ⟨_, _, ⟨T3, L3, k3, n3⟩, -, X3, ⟨Lc3, hQ3, l3, y3, z3⟩, st3⟩ := X2.virtualBack hx (y := (⟨"com/example/wengao/wengao/mapping/AuditRole", "isStampedOnSave", "()Z"⟩ : MethodName)) (z := (⟨"com/example/wengao/wengao/mapping/AuditRole", "isStampedOnSave", "()Z"⟩ : MethodName)) hown (mvT hZ (hw _ (List.mem_of_getElem? (i := 17) rfl))) (mvT hZ (hw _ (List.mem_of_getElem? (i := 18) rfl))) (notFace_of_selects (args := #[]) (mvT hZ (hw _ (List.mem_of_getElem? (i := 20) rfl)))) (mvT hZ (hw _ (List.mem_of_getElem? (i := 20) rfl))) (mvT hZ (hw _ (List.mem_of_getElem? (i := 19) rfl))) (by decide) (backOf (W := 0) (own_r3_1 l Z a0 hw [] c0 c1 c2 c3 c4 c5 c6 h0 n0 Z0 K) hZ (hw _ (List.mem_of_getElem? (i := 21) rfl)) (hw _ (List.mem_of_getElem? (i := 6) rfl)) (by decide) (by decide)) q3a q3c (g := (mkF m 56 #[.val (.int p0), .val (.int (1 : Int32)), .val (.ref c6), .val (.int (0 : Int32)), .val (.int (0 : Int32)), .val (.int (0 : Int32)), .unset, .unset] [(.ref c6)])) rfl (by rw [hml]; rfl) (Steps.refl _) (argsL := []) (rest := []) (lenOf own_pd1 rfl) rfl (by show 2 * 0 + _ ≤ _; exact Nat.le_of_eq rfl) (hb hby at_56) (fun _ _ => ⟨rfl, e2, (by decide : 0 + 0 ≤ _), (by decide : 0 + 0 ≤ _)⟩)
  dsimp only [Pt.U, Pt.locs, Pt.cells, Pt.slots] at X3 l3 y3 z3 st3 hQ3
  subst l3 y3 z3
  obtain ⟨rfl, N3q, e3⟩ := hQ3
  have N3 := Fr.app N2 N3q
  obtain ⟨fs, hr, hrun, hended, hW, hsame⟩ := X3.leave (v := some (.int (1 : Int32))) (fun h => by rw [Bd.returns] at h; cases h)
  refine ⟨_, _, pre0 _ ?_, hrun, hended, _, _, rfl, ?_, ⟨_, rfl⟩, hW, hsame.mono (by decide) (by decide)⟩
  · show Steps p.tables e below (s₁.setTop (mkF m 0 #[.val (.int p0), .unset, .unset, .unset, .unset, .unset, .unset, .unset] [])) _
    refine XS.iloadN X0.here hx rfl (hb hby at_0) rfl ?_
    show Steps p.tables e below (s₁.setTop (mkF m 1 #[.val (.int p0), .unset, .unset, .unset, .unset, .unset, .unset, .unset] [(.int p0)])) _
    refine X0.ldcInt hx hown (mvT hZ (hw _ (List.mem_of_getElem? (i := 0) rfl))) (g := (mkF m 1 #[.val (.int p0), .unset, .unset, .unset, .unset, .unset, .unset, .unset] [(.int p0)])) rfl (hb hby at_1) _ ?_
    show Steps p.tables e below (s₁.setTop (mkF m 3 #[.val (.int p0), .unset, .unset, .unset, .unset, .unset, .unset, .unset] [(.int (2147483647 : Int32)), (.int p0)])) _
    refine XS.iand X0.here hx rfl (hb hby at_3) rfl ?_
    show Steps p.tables e below (s₁.setTop (mkF m 4 #[.val (.int p0), .unset, .unset, .unset, .unset, .unset, .unset, .unset] [(.int (p0 &&& (2147483647 : Int32)))])) _
    refine XS.bipush X0.here hx rfl (hb hby at_4) ?_
    show Steps p.tables e below (s₁.setTop (mkF m 6 #[.val (.int p0), .unset, .unset, .unset, .unset, .unset, .unset, .unset] [(.int (7 : Int32)), (.int (p0 &&& (2147483647 : Int32)))])) _
    refine iremM X0 hx rfl (hb hby at_6) rfl (by decide) ?_
    show Steps p.tables e below (s₁.setTop (mkF m 7 #[.val (.int p0), .unset, .unset, .unset, .unset, .unset, .unset, .unset] [(.int ((p0 &&& (2147483647 : Int32)) % (7 : Int32)))])) _
    rw [hk0]
    show Steps p.tables e below (s₁.setTop (mkF m 7 #[.val (.int p0), .unset, .unset, .unset, .unset, .unset, .unset, .unset] [(.int (1 : Int32))])) _
    refine XS.istoreN X0.here hx rfl (hb hby at_7) rfl (l' := #[.val (.int p0), .val (.int (1 : Int32)), .unset, .unset, .unset, .unset, .unset, .unset]) rfl ?_
    show Steps p.tables e below (s₁.setTop (mkF m 8 #[.val (.int p0), .val (.int (1 : Int32)), .unset, .unset, .unset, .unset, .unset, .unset] [])) _
    refine XS.iloadN X0.here hx rfl (hb hby at_8) rfl ?_
    show Steps p.tables e below (s₁.setTop (mkF m 9 #[.val (.int p0), .val (.int (1 : Int32)), .unset, .unset, .unset, .unset, .unset, .unset] [(.int (1 : Int32))])) _
    refine st1 _ ?_
    show Steps p.tables e below (T1.setTop (mkF m 12 #[.val (.int p0), .val (.int (1 : Int32)), .unset, .unset, .unset, .unset, .unset, .unset] [(.ref c6)])) _
    refine XS.astoreN X1.here hx rfl (hb hby at_12) rfl rfl (l' := #[.val (.int p0), .val (.int (1 : Int32)), .val (.ref c6), .unset, .unset, .unset, .unset, .unset]) rfl ?_
    show Steps p.tables e below (T1.setTop (mkF m 13 #[.val (.int p0), .val (.int (1 : Int32)), .val (.ref c6), .unset, .unset, .unset, .unset, .unset] [])) _
    refine XS.iloadN X1.here hx rfl (hb hby at_13) rfl ?_
    show Steps p.tables e below (T1.setTop (mkF m 14 #[.val (.int p0), .val (.int (1 : Int32)), .val (.ref c6), .unset, .unset, .unset, .unset, .unset] [(.int (1 : Int32))])) _
    refine XS.iconst X1.here hx rfl (hb hby at_14) ?_
    show Steps p.tables e below (T1.setTop (mkF m 15 #[.val (.int p0), .val (.int (1 : Int32)), .val (.ref c6), .unset, .unset, .unset, .unset, .unset] [(.int (5 : Int32)), (.int (1 : Int32))])) _
    refine XS.icmpNo X1.here hx rfl (hb hby at_15) rfl (feq (by decide : ¬ ((1 : Int32) = (5 : Int32)))).1 ?_
    show Steps p.tables e below (T1.setTop (mkF m 18 #[.val (.int p0), .val (.int (1 : Int32)), .val (.ref c6), .unset, .unset, .unset, .unset, .unset] [])) _
    refine XS.iloadN X1.here hx rfl (hb hby at_18) rfl ?_
    show Steps p.tables e below (T1.setTop (mkF m 19 #[.val (.int p0), .val (.int (1 : Int32)), .val (.ref c6), .unset, .unset, .unset, .unset, .unset] [(.int (1 : Int32))])) _
    refine XS.bipush X1.here hx rfl (hb hby at_19) ?_
    show Steps p.tables e below (T1.setTop (mkF m 21 #[.val (.int p0), .val (.int (1 : Int32)), .val (.ref c6), .unset, .unset, .unset, .unset, .unset] [(.int (6 : Int32)), (.int (1 : Int32))])) _
    refine XS.icmpYes X1.here hx rfl (pc0 := 21) (pc' := 28) rfl (hb hby at_21) rfl (feq (by decide : ¬ ((1 : Int32) = (6 : Int32)))).2 (by decide) (by decide) ?_
    show Steps p.tables e below (T1.setTop (mkF m 28 #[.val (.int p0), .val (.int (1 : Int32)), .val (.ref c6), .unset, .unset, .unset, .unset, .unset] [])) _
    refine XS.iconst X1.here hx rfl (hb hby at_28) ?_
    show Steps p.tables e below (T1.setTop (mkF m 29 #[.val (.int p0), .val (.int (1 : Int32)), .val (.ref c6), .unset, .unset, .unset, .unset, .unset] [(.int (0 : Int32))])) _
    refine XS.istoreN X1.here hx rfl (hb hby at_29) rfl (l' := #[.val (.int p0), .val (.int (1 : Int32)), .val (.ref c6), .val (.int (0 : Int32)), .unset, .unset, .unset, .unset]) rfl ?_
    show Steps p.tables e below (T1.setTop (mkF m 30 #[.val (.int p0), .val (.int (1 : Int32)), .val (.ref c6), .val (.int (0 : Int32)), .unset, .unset, .unset, .unset] [])) _
    refine XS.aloadN X1.here hx rfl (hb hby at_30) rfl rfl ?_
    show Steps p.tables e below (T1.setTop (mkF m 31 #[.val (.int p0), .val (.int (1 : Int32)), .val (.ref c6), .val (.int (0 : Int32)), .unset, .unset, .unset, .unset] [(.ref c6)])) _
    refine st2.trans ?_
    show Steps p.tables e below (T2.setTop (mkF m 34 #[.val (.int p0), .val (.int (1 : Int32)), .val (.ref c6), .val (.int (0 : Int32)), .unset, .unset, .unset, .unset] [(.int (0 : Int32))])) _
    refine XS.istore X2.here hx rfl (hb hby at_34) rfl (l' := #[.val (.int p0), .val (.int (1 : Int32)), .val (.ref c6), .val (.int (0 : Int32)), .val (.int (0 : Int32)), .unset, .unset, .unset]) rfl ?_
    show Steps p.tables e below (T2.setTop (mkF m 36 #[.val (.int p0), .val (.int (1 : Int32)), .val (.ref c6), .val (.int (0 : Int32)), .val (.int (0 : Int32)), .unset, .unset, .unset] [])) _
    refine XS.iload X2.here hx rfl (hb hby at_36) rfl ?_
    show Steps p.tables e below (T2.setTop (mkF m 38 #[.val (.int p0), .val (.int (1 : Int32)), .val (.ref c6), .val (.int (0 : Int32)), .val (.int (0 : Int32)), .unset, .unset, .unset] [(.int (0 : Int32))])) _
    refine XS.iloadN X2.here hx rfl (hb hby at_38) rfl ?_
    show Steps p.tables e below (T2.setTop (mkF m 39 #[.val (.int p0), .val (.int (1 : Int32)), .val (.ref c6), .val (.int (0 : Int32)), .val (.int (0 : Int32)), .unset, .unset, .unset] [(.int (0 : Int32)), (.int (0 : Int32))])) _
    refine XS.icmpYes X2.here hx rfl (pc0 := 39) (pc' := 44) rfl (hb hby at_39) rfl (teq (by decide : (0 : Int32) = (0 : Int32))).1 (by decide) (by decide) ?_
    show Steps p.tables e below (T2.setTop (mkF m 44 #[.val (.int p0), .val (.int (1 : Int32)), .val (.ref c6), .val (.int (0 : Int32)), .val (.int (0 : Int32)), .unset, .unset, .unset] [])) _
    refine XS.iloadN X2.here hx rfl (hb hby at_44) rfl ?_
    show Steps p.tables e below (T2.setTop (mkF m 45 #[.val (.int p0), .val (.int (1 : Int32)), .val (.ref c6), .val (.int (0 : Int32)), .val (.int (0 : Int32)), .unset, .unset, .unset] [(.int (1 : Int32))])) _
    refine XS.ifYes X2.here hx rfl (pc0 := 45) (pc' := 52) rfl (hb hby at_45) rfl ((if0 _ _).trans (feq (by decide : ¬ ((1 : Int32) = (0 : Int32)))).2) (by decide) (by decide) ?_
    show Steps p.tables e below (T2.setTop (mkF m 52 #[.val (.int p0), .val (.int (1 : Int32)), .val (.ref c6), .val (.int (0 : Int32)), .val (.int (0 : Int32)), .unset, .unset, .unset] [])) _
    refine XS.iconst X2.here hx rfl (hb hby at_52) ?_
    show Steps p.tables e below (T2.setTop (mkF m 53 #[.val (.int p0), .val (.int (1 : Int32)), .val (.ref c6), .val (.int (0 : Int32)), .val (.int (0 : Int32)), .unset, .unset, .unset] [(.int (0 : Int32))])) _
    refine XS.istore X2.here hx rfl (hb hby at_53) rfl (l' := #[.val (.int p0), .val (.int (1 : Int32)), .val (.ref c6), .val (.int (0 : Int32)), .val (.int (0 : Int32)), .val (.int (0 : Int32)), .unset, .unset]) rfl ?_
    show Steps p.tables e below (T2.setTop (mkF m 55 #[.val (.int p0), .val (.int (1 : Int32)), .val (.ref c6), .val (.int (0 : Int32)), .val (.int (0 : Int32)), .val (.int (0 : Int32)), .unset, .unset] [])) _
    refine XS.aloadN X2.here hx rfl (hb hby at_55) rfl rfl ?_
    show Steps p.tables e below (T2.setTop (mkF m 56 #[.val (.int p0), .val (.int (1 : Int32)), .val (.ref c6), .val (.int (0 : Int32)), .val (.int (0 : Int32)), .val (.int (0 : Int32)), .unset, .unset] [(.ref c6)])) _
    refine st3.trans ?_
    show Steps p.tables e below (T3.setTop (mkF m 59 #[.val (.int p0), .val (.int (1 : Int32)), .val (.ref c6), .val (.int (0 : Int32)), .val (.int (0 : Int32)), .val (.int (0 : Int32)), .unset, .unset] [(.int (1 : Int32))])) _
    refine XS.istore X3.here hx rfl (hb hby at_59) rfl (l' := #[.val (.int p0), .val (.int (1 : Int32)), .val (.ref c6), .val (.int (0 : Int32)), .val (.int (0 : Int32)), .val (.int (0 : Int32)), .val (.int (1 : Int32)), .unset]) rfl ?_
    show Steps p.tables e below (T3.setTop (mkF m 61 #[.val (.int p0), .val (.int (1 : Int32)), .val (.ref c6), .val (.int (0 : Int32)), .val (.int (0 : Int32)), .val (.int (0 : Int32)), .val (.int (1 : Int32)), .unset] [])) _
    refine XS.iload X3.here hx rfl (hb hby at_61) rfl ?_
    show Steps p.tables e below (T3.setTop (mkF m 63 #[.val (.int p0), .val (.int (1 : Int32)), .val (.ref c6), .val (.int (0 : Int32)), .val (.int (0 : Int32)), .val (.int (0 : Int32)), .val (.int (1 : Int32)), .unset] [(.int (0 : Int32))])) _
    refine XS.ifYes X3.here hx rfl (pc0 := 63) (pc' := 70) rfl (hb hby at_63) rfl ((if0 _ _).trans (teq (by decide : (0 : Int32) = (0 : Int32))).1) (by decide) (by decide) ?_
    show Steps p.tables e below (T3.setTop (mkF m 70 #[.val (.int p0), .val (.int (1 : Int32)), .val (.ref c6), .val (.int (0 : Int32)), .val (.int (0 : Int32)), .val (.int (0 : Int32)), .val (.int (1 : Int32)), .unset] [])) _
    refine XS.iconst X3.here hx rfl (hb hby at_70) ?_
    show Steps p.tables e below (T3.setTop (mkF m 71 #[.val (.int p0), .val (.int (1 : Int32)), .val (.ref c6), .val (.int (0 : Int32)), .val (.int (0 : Int32)), .val (.int (0 : Int32)), .val (.int (1 : Int32)), .unset] [(.int (0 : Int32))])) _
    refine XS.iload X3.here hx rfl (hb hby at_71) rfl ?_
    show Steps p.tables e below (T3.setTop (mkF m 73 #[.val (.int p0), .val (.int (1 : Int32)), .val (.ref c6), .val (.int (0 : Int32)), .val (.int (0 : Int32)), .val (.int (0 : Int32)), .val (.int (1 : Int32)), .unset] [(.int (1 : Int32)), (.int (0 : Int32))])) _
    refine XS.ifNo X3.here hx rfl (hb hby at_73) rfl ((if0 _ _).trans (feq (by decide : ¬ ((1 : Int32) = (0 : Int32)))).1) ?_
    show Steps p.tables e below (T3.setTop (mkF m 76 #[.val (.int p0), .val (.int (1 : Int32)), .val (.ref c6), .val (.int (0 : Int32)), .val (.int (0 : Int32)), .val (.int (0 : Int32)), .val (.int (1 : Int32)), .unset] [(.int (0 : Int32))])) _
    refine XS.iconst X3.here hx rfl (hb hby at_76) ?_
    show Steps p.tables e below (T3.setTop (mkF m 77 #[.val (.int p0), .val (.int (1 : Int32)), .val (.ref c6), .val (.int (0 : Int32)), .val (.int (0 : Int32)), .val (.int (0 : Int32)), .val (.int (1 : Int32)), .unset] [(.int (1 : Int32)), (.int (0 : Int32))])) _
    refine XS.goto X3.here hx rfl (pc0 := 77) (pc' := 81) rfl (hb hby at_77) (by decide) (by decide) ?_
    show Steps p.tables e below (T3.setTop (mkF m 81 #[.val (.int p0), .val (.int (1 : Int32)), .val (.ref c6), .val (.int (0 : Int32)), .val (.int (0 : Int32)), .val (.int (0 : Int32)), .val (.int (1 : Int32)), .unset] [(.int (1 : Int32)), (.int (0 : Int32))])) _
    refine XS.iadd X3.here hx rfl (hb hby at_81) rfl ?_
    show Steps p.tables e below (T3.setTop (mkF m 82 #[.val (.int p0), .val (.int (1 : Int32)), .val (.ref c6), .val (.int (0 : Int32)), .val (.int (0 : Int32)), .val (.int (0 : Int32)), .val (.int (1 : Int32)), .unset] [(.int ((0 : Int32) + (1 : Int32)))])) _
    refine XS.iload X3.here hx rfl (hb hby at_82) rfl ?_
    show Steps p.tables e below (T3.setTop (mkF m 84 #[.val (.int p0), .val (.int (1 : Int32)), .val (.ref c6), .val (.int (0 : Int32)), .val (.int (0 : Int32)), .val (.int (0 : Int32)), .val (.int (1 : Int32)), .unset] [(.int (0 : Int32)), (.int ((0 : Int32) + (1 : Int32)))])) _
    refine XS.ifYes X3.here hx rfl (pc0 := 84) (pc' := 91) rfl (hb hby at_84) rfl ((if0 _ _).trans (teq (by decide : (0 : Int32) = (0 : Int32))).1) (by decide) (by decide) ?_
    show Steps p.tables e below (T3.setTop (mkF m 91 #[.val (.int p0), .val (.int (1 : Int32)), .val (.ref c6), .val (.int (0 : Int32)), .val (.int (0 : Int32)), .val (.int (0 : Int32)), .val (.int (1 : Int32)), .unset] [(.int ((0 : Int32) + (1 : Int32)))])) _
    refine XS.iconst X3.here hx rfl (hb hby at_91) ?_
    show Steps p.tables e below (T3.setTop (mkF m 92 #[.val (.int p0), .val (.int (1 : Int32)), .val (.ref c6), .val (.int (0 : Int32)), .val (.int (0 : Int32)), .val (.int (0 : Int32)), .val (.int (1 : Int32)), .unset] [(.int (0 : Int32)), (.int ((0 : Int32) + (1 : Int32)))])) _
    refine XS.iadd X3.here hx rfl (hb hby at_92) rfl ?_
    show Steps p.tables e below (T3.setTop (mkF m 93 #[.val (.int p0), .val (.int (1 : Int32)), .val (.ref c6), .val (.int (0 : Int32)), .val (.int (0 : Int32)), .val (.int (0 : Int32)), .val (.int (1 : Int32)), .unset] [(.int (((0 : Int32) + (1 : Int32)) + (0 : Int32)))])) _
    refine XS.istore X3.here hx rfl (hb hby at_93) rfl (l' := #[.val (.int p0), .val (.int (1 : Int32)), .val (.ref c6), .val (.int (0 : Int32)), .val (.int (0 : Int32)), .val (.int (0 : Int32)), .val (.int (1 : Int32)), .val (.int (((0 : Int32) + (1 : Int32)) + (0 : Int32)))]) rfl ?_
    show Steps p.tables e below (T3.setTop (mkF m 95 #[.val (.int p0), .val (.int (1 : Int32)), .val (.ref c6), .val (.int (0 : Int32)), .val (.int (0 : Int32)), .val (.int (0 : Int32)), .val (.int (1 : Int32)), .val (.int (((0 : Int32) + (1 : Int32)) + (0 : Int32)))] [])) _
    refine XS.iload X3.here hx rfl (hb hby at_95) rfl ?_
    show Steps p.tables e below (T3.setTop (mkF m 97 #[.val (.int p0), .val (.int (1 : Int32)), .val (.ref c6), .val (.int (0 : Int32)), .val (.int (0 : Int32)), .val (.int (0 : Int32)), .val (.int (1 : Int32)), .val (.int (((0 : Int32) + (1 : Int32)) + (0 : Int32)))] [(.int (((0 : Int32) + (1 : Int32)) + (0 : Int32)))])) _
    refine XS.iconst X3.here hx rfl (hb hby at_97) ?_
    show Steps p.tables e below (T3.setTop (mkF m 98 #[.val (.int p0), .val (.int (1 : Int32)), .val (.ref c6), .val (.int (0 : Int32)), .val (.int (0 : Int32)), .val (.int (0 : Int32)), .val (.int (1 : Int32)), .val (.int (((0 : Int32) + (1 : Int32)) + (0 : Int32)))] [(.int (1 : Int32)), (.int (((0 : Int32) + (1 : Int32)) + (0 : Int32)))])) _
    refine XS.icmpNo X3.here hx rfl (hb hby at_98) rfl (teq (by decide : (((0 : Int32) + (1 : Int32)) + (0 : Int32)) = (1 : Int32))).2 ?_
    show Steps p.tables e below (T3.setTop (mkF m 101 #[.val (.int p0), .val (.int (1 : Int32)), .val (.ref c6), .val (.int (0 : Int32)), .val (.int (0 : Int32)), .val (.int (0 : Int32)), .val (.int (1 : Int32)), .val (.int (((0 : Int32) + (1 : Int32)) + (0 : Int32)))] [])) _
    refine XS.iconst X3.here hx rfl (hb hby at_101) ?_
    show Steps p.tables e below (T3.setTop (mkF m 102 #[.val (.int p0), .val (.int (1 : Int32)), .val (.ref c6), .val (.int (0 : Int32)), .val (.int (0 : Int32)), .val (.int (0 : Int32)), .val (.int (1 : Int32)), .val (.int (((0 : Int32) + (1 : Int32)) + (0 : Int32)))] [(.int (1 : Int32))])) _
    refine XS.goto X3.here hx rfl (pc0 := 102) (pc' := 106) rfl (hb hby at_102) (by decide) (by decide) ?_
    show Steps p.tables e below (T3.setTop (mkF m 106 #[.val (.int p0), .val (.int (1 : Int32)), .val (.ref c6), .val (.int (0 : Int32)), .val (.int (0 : Int32)), .val (.int (0 : Int32)), .val (.int (1 : Int32)), .val (.int (((0 : Int32) + (1 : Int32)) + (0 : Int32)))] [(.int (1 : Int32))])) _
    exact retN X3 hx (t := .boolean) Bd.returns (by simp) (hb hby at_106) hr
  · show own_Q _ h0 n0 _ T3.heap _
    exact ⟨rfl, N3, e3⟩
theorem own_d1_17 : decode method_3_code 17 = .ok (.iload_n 0, 1) := by decide +kernel
theorem own_d1_18 : decode method_3_code 18 = .ok (.iconst 2, 1) := by decide +kernel
theorem own_d1_19 : decode method_3_code 19 = .ok (.if_icmp .ne 7, 3) := by decide +kernel
theorem own_d1_22 : decode method_3_code 22 = .ok (.getstatic 30, 3) := by decide +kernel
theorem own_d1_25 : decode method_3_code 25 = .ok (.areturn, 1) := by decide +kernel
set_option maxRecDepth 65536 in
set_option maxHeartbeats 40000000 in
theorem own_r1_2 (l : Launch) (Z : State) (a0 : Array Value) (hw : ∀ d ∈ tables_1, d.before a0 Z = true) (ws : List Jvm.Cond)  (c0 c1 c2 c3 c4 c5 c6 : Addr) (h0 : Heap) (n0 : Nat) (Z0 : n0 ≤ h0.size) (K : own_W Z h0 c0 c1 c2 c3 c4 c5 c6)  :
    MetFree l (⟨"com/example/wengao/wengao/mapping/AuditRoleIsStampedOnDeletePinLaw", "pick", "(I)Lcom/example/wengao/wengao/mapping/AuditRole;"⟩ : MethodName) (head1 (Jvm.Cond.code (⟨"com/example/wengao/wengao/mapping/AuditRoleIsStampedOnDeletePinLaw", "pick", "(I)Lcom/example/wengao/wengao/mapping/AuditRole;"⟩ : MethodName) method_3_code 1 (some (.object "com/example/wengao/wengao/mapping/AuditRole")) :: ws) ({ frames := 0, cells := 0, slots := 0, locals := 0 } : Room)) (fun a U => a = #[(.int (2 : Int32))] ∧ Z.Warmed39 U.vm ∧ U.heap = h0) (fun _ _ _ _ _ => True) (fun _ U o U' => ∃ v L, o = .returned v ∧ own_Q (.ref c5) h0 n0 v U'.heap L ∧ FrameEnd U o U' L ({ frames := 0, cells := 0, slots := 0, locals := 0 } : Room).cells ({ frames := 0, cells := 0, slots := 0, locals := 0 } : Room).slots) := by
  have K' := K
  obtain ⟨S0, E0, S1, E1, S2, E2, S3, E3, S4, E4, S5, E5, S6, E6, F0, F1, F2, F3, F4, F5, F6⟩ := K'
  refine MetFree.of_bodySF (plainFor_of_name own_pn0) hisR ?_
  intro p e s m args below meth c s₁ Bd hml0 hP hK
  obtain ⟨rfl, hZ, hh⟩ := hP
  have hx := Bd.exec
  have hby := Bd.bytes
  have hml : c.maxLocals = 1 := hml0
  have hown : s.vm.findClass "com/example/wengao/wengao/mapping/AuditRoleIsStampedOnDeletePinLaw" = some m.cls := findClass_of_methodNamed Bd.named
  have X0 : Stand p l e ({ frames := 0, cells := 0, slots := 0, locals := 0 } : Room) s m #[(.int (2 : Int32))] below meth c s₁ [] 0 0 := Stand.of_body Bd
  have e0 : s₁.heap = h0 := by rw [← hh, Bd.state]; rfl
  have N0 := Fr.nil n0
  have pre0 : ∀ t, Steps p.tables e below (s₁.setTop (mkF m 0 #[.val (.int (2 : Int32))] [])) t → Steps p.tables e below (s₁.setTop (entryFrame m #[(.int (2 : Int32))] 1)) t := fun t k => castTop (own_ef1 m (2 : Int32)) k
  obtain ⟨T1, X1, e1, st1⟩ := getS2 X0 hx hZ hown (host := "") (Or.inl (hw _ (List.mem_of_getElem? (i := 30) rfl))) Via.refl e0 S5 (g := (mkF m 22 #[.val (.int (2 : Int32))] [])) rfl (hb hby own_d1_22)
  obtain ⟨fs, hr, hrun, hended, hW, hsame⟩ := X1.leave (v := some (.ref c5)) (fun h => by rw [Bd.returns] at h; cases h)
  refine ⟨_, _, pre0 _ ?_, hrun, hended, _, _, rfl, ?_, ⟨_, rfl⟩, hW, hsame.mono (by decide) (by decide)⟩
  · show Steps p.tables e below (s₁.setTop (mkF m 0 #[.val (.int (2 : Int32))] [])) _
    refine XS.iloadN X0.here hx rfl (hb hby own_d1_0) rfl ?_
    show Steps p.tables e below (s₁.setTop (mkF m 1 #[.val (.int (2 : Int32))] [(.int (2 : Int32))])) _
    refine XS.ifYes X0.here hx rfl (pc0 := 1) (pc' := 8) rfl (hb hby own_d1_1) rfl ((if0 _ _).trans (feq (by decide : ¬ ((2 : Int32) = (0 : Int32)))).2) (by decide) (by decide) ?_
    show Steps p.tables e below (s₁.setTop (mkF m 8 #[.val (.int (2 : Int32))] [])) _
    refine XS.iloadN X0.here hx rfl (hb hby own_d1_8) rfl ?_
    show Steps p.tables e below (s₁.setTop (mkF m 9 #[.val (.int (2 : Int32))] [(.int (2 : Int32))])) _
    refine XS.iconst X0.here hx rfl (hb hby own_d1_9) ?_
    show Steps p.tables e below (s₁.setTop (mkF m 10 #[.val (.int (2 : Int32))] [(.int (1 : Int32)), (.int (2 : Int32))])) _
    refine XS.icmpYes X0.here hx rfl (pc0 := 10) (pc' := 17) rfl (hb hby own_d1_10) rfl (feq (by decide : ¬ ((2 : Int32) = (1 : Int32)))).2 (by decide) (by decide) ?_
    show Steps p.tables e below (s₁.setTop (mkF m 17 #[.val (.int (2 : Int32))] [])) _
    refine XS.iloadN X0.here hx rfl (hb hby own_d1_17) rfl ?_
    show Steps p.tables e below (s₁.setTop (mkF m 18 #[.val (.int (2 : Int32))] [(.int (2 : Int32))])) _
    refine XS.iconst X0.here hx rfl (hb hby own_d1_18) ?_
    show Steps p.tables e below (s₁.setTop (mkF m 19 #[.val (.int (2 : Int32))] [(.int (2 : Int32)), (.int (2 : Int32))])) _
    refine XS.icmpNo X0.here hx rfl (hb hby own_d1_19) rfl (teq (by decide : (2 : Int32) = (2 : Int32))).2 ?_
    show Steps p.tables e below (s₁.setTop (mkF m 22 #[.val (.int (2 : Int32))] [])) _
    refine st1 _ ?_
    show Steps p.tables e below (T1.setTop (mkF m 25 #[.val (.int (2 : Int32))] [(.ref c5)])) _
    jvm_step X1.here [X1.here.top, hx, (hb hby own_d1_25), X1.method', Bd.returns, Value.isRef, FieldType.isReference]
    first | (intro acts; rw [hr _ acts rfl rfl rfl]) | rw [hr _ _ rfl rfl rfl]
    exact Steps.refl _
  · show own_Q _ h0 n0 _ T1.heap _
    exact ⟨rfl, N0, e1⟩
set_option maxRecDepth 65536 in
set_option maxHeartbeats 40000000 in
theorem own_r2_2 (l : Launch) (Z : State) (a0 : Array Value) (hw : ∀ d ∈ tables_1, d.before a0 Z = true) (ws : List Jvm.Cond)  (c0 c1 c2 c3 c4 c5 c6 : Addr) (h0 : Heap) (n0 : Nat) (Z0 : n0 ≤ h0.size) (K : own_W Z h0 c0 c1 c2 c3 c4 c5 c6)  :
    MetFree l (⟨"com/example/wengao/wengao/mapping/AuditRole", "isStampedOnDelete", "()Z"⟩ : MethodName) (head1 (Jvm.Cond.code (⟨"com/example/wengao/wengao/mapping/AuditRole", "isStampedOnDelete", "()Z"⟩ : MethodName) prog_21_method_9_code 1 (some .boolean) :: ws) ({ frames := 0, cells := 0, slots := 0, locals := 0 } : Room)) (fun a U => a = #[(.ref c5)] ∧ Z.Warmed39 U.vm ∧ U.heap = h0) (fun _ _ _ _ _ => True) (fun _ U o U' => ∃ v L, o = .returned v ∧ own_Q (.int (0 : Int32)) h0 n0 v U'.heap L ∧ FrameEnd U o U' L ({ frames := 0, cells := 0, slots := 0, locals := 0 } : Room).cells ({ frames := 0, cells := 0, slots := 0, locals := 0 } : Room).slots) := by
  have K' := K
  obtain ⟨S0, E0, S1, E1, S2, E2, S3, E3, S4, E4, S5, E5, S6, E6, F0, F1, F2, F3, F4, F5, F6⟩ := K'
  have ne_5_1 : ¬ (c5 = c1) := (Fld.ne F5 F1 (fun q => absurd (Value.int.inj q) (by decide)))
  have ne_5_2 : ¬ (c5 = c2) := (Fld.ne F5 F2 (fun q => absurd (Value.int.inj q) (by decide)))
  refine MetFree.of_bodySF (plainFor_of_name own_pn1) hisR ?_
  intro p e s m args below meth c s₁ Bd hml0 hP hK
  obtain ⟨rfl, hZ, hh⟩ := hP
  have hx := Bd.exec
  have hby := Bd.bytes
  have hml : c.maxLocals = 1 := hml0
  have hown : s.vm.findClass "com/example/wengao/wengao/mapping/AuditRole" = some m.cls := findClass_of_methodNamed Bd.named
  have X0 : Stand p l e ({ frames := 0, cells := 0, slots := 0, locals := 0 } : Room) s m #[(.ref c5)] below meth c s₁ [] 0 0 := Stand.of_body Bd
  have e0 : s₁.heap = h0 := by rw [← hh, Bd.state]; rfl
  have N0 := Fr.nil n0
  have pre0 : ∀ t, Steps p.tables e below (s₁.setTop (mkF m 0 #[.val (.ref c5)] [])) t → Steps p.tables e below (s₁.setTop (entryFrame m #[(.ref c5)] 1)) t := fun t k => castTop (own_ef2 m c5) k
  obtain ⟨T1, X1, e1, st1⟩ := getS2 X0 hx hZ hown (host := "") (Or.inl (hw _ (List.mem_of_getElem? (i := 13) rfl))) Via.refl e0 S1 (g := (mkF m 1 #[.val (.ref c5)] [(.ref c5)])) rfl (hb hby own_d2_1)
  obtain ⟨T2, X2, e2, st2⟩ := getS2 X1 hx hZ hown (host := "") (Or.inl (hw _ (List.mem_of_getElem? (i := 15) rfl))) Via.refl e1 S2 (g := (mkF m 8 #[.val (.ref c5)] [(.ref c5)])) rfl (hb hby own_d2_8)
  obtain ⟨fs, hr, hrun, hended, hW, hsame⟩ := X2.leave (v := some (.int (0 : Int32))) (fun h => by rw [Bd.returns] at h; cases h)
  refine ⟨_, _, pre0 _ ?_, hrun, hended, _, _, rfl, ?_, ⟨_, rfl⟩, hW, hsame.mono (by decide) (by decide)⟩
  · show Steps p.tables e below (s₁.setTop (mkF m 0 #[.val (.ref c5)] [])) _
    refine XS.aloadN X0.here hx rfl (hb hby own_d2_0) rfl rfl ?_
    show Steps p.tables e below (s₁.setTop (mkF m 1 #[.val (.ref c5)] [(.ref c5)])) _
    refine st1 _ ?_
    show Steps p.tables e below (T1.setTop (mkF m 4 #[.val (.ref c5)] [(.ref c1), (.ref c5)])) _
    refine Jvm.RoadKit.acmp (g := (mkF m 4 #[.val (.ref c5)] [(.ref c1), (.ref c5)])) X1 hx rfl rfl rfl (pc0 := 4) (pc' := 7) (same := false) rfl (hb hby own_d2_4) rfl (decide_eq_false fun q => ne_5_1 (Value.ref.inj q)) (by decide) (by decide) ?_
    show Steps p.tables e below (T1.setTop (mkF m 7 #[.val (.ref c5)] [])) _
    refine XS.aloadN X1.here hx rfl (hb hby own_d2_7) rfl rfl ?_
    show Steps p.tables e below (T1.setTop (mkF m 8 #[.val (.ref c5)] [(.ref c5)])) _
    refine st2 _ ?_
    show Steps p.tables e below (T2.setTop (mkF m 11 #[.val (.ref c5)] [(.ref c2), (.ref c5)])) _
    refine Jvm.RoadKit.acmp (g := (mkF m 11 #[.val (.ref c5)] [(.ref c2), (.ref c5)])) X2 hx rfl rfl rfl (pc0 := 11) (pc' := 18) (same := false) rfl (hb hby own_d2_11) rfl (decide_eq_false fun q => ne_5_2 (Value.ref.inj q)) (by decide) (by decide) ?_
    show Steps p.tables e below (T2.setTop (mkF m 18 #[.val (.ref c5)] [])) _
    refine XS.iconst X2.here hx rfl (hb hby own_d2_18) ?_
    show Steps p.tables e below (T2.setTop (mkF m 19 #[.val (.ref c5)] [(.int (0 : Int32))])) _
    exact retN X2 hx (t := .boolean) Bd.returns (by simp) (hb hby own_d2_19) hr
  · show own_Q _ h0 n0 _ T2.heap _
    exact ⟨rfl, N0, e2⟩
set_option maxRecDepth 65536 in
set_option maxHeartbeats 40000000 in
theorem own_r3_2 (l : Launch) (Z : State) (a0 : Array Value) (hw : ∀ d ∈ tables_1, d.before a0 Z = true) (ws : List Jvm.Cond)  (c0 c1 c2 c3 c4 c5 c6 : Addr) (h0 : Heap) (n0 : Nat) (Z0 : n0 ≤ h0.size) (K : own_W Z h0 c0 c1 c2 c3 c4 c5 c6)  :
    MetFree l (⟨"com/example/wengao/wengao/mapping/AuditRole", "isStampedOnSave", "()Z"⟩ : MethodName) (head1 (Jvm.Cond.code (⟨"com/example/wengao/wengao/mapping/AuditRole", "isStampedOnSave", "()Z"⟩ : MethodName) prog_21_method_7_code 1 (some .boolean) :: ws) ({ frames := 1, cells := 0, slots := 0, locals := 12 } : Room)) (fun a U => a = #[(.ref c5)] ∧ Z.Warmed39 U.vm ∧ U.heap = h0) (fun _ _ _ _ _ => True) (fun _ U o U' => ∃ v L, o = .returned v ∧ own_Q (.int (1 : Int32)) h0 n0 v U'.heap L ∧ FrameEnd U o U' L ({ frames := 1, cells := 0, slots := 0, locals := 12 } : Room).cells ({ frames := 1, cells := 0, slots := 0, locals := 12 } : Room).slots) := by
  have K' := K
  obtain ⟨S0, E0, S1, E1, S2, E2, S3, E3, S4, E4, S5, E5, S6, E6, F0, F1, F2, F3, F4, F5, F6⟩ := K'
  have ne_5_0 : ¬ (c5 = c0) := (Fld.ne F5 F0 (fun q => absurd (Value.int.inj q) (by decide)))
  refine MetFree.of_bodySF (plainFor_of_name own_pn1) hisR ?_
  intro p e s m args below meth c s₁ Bd hml0 hP hK
  obtain ⟨rfl, hZ, hh⟩ := hP
  have hx := Bd.exec
  have hby := Bd.bytes
  have hml : c.maxLocals = 1 := hml0
  have hown : s.vm.findClass "com/example/wengao/wengao/mapping/AuditRole" = some m.cls := findClass_of_methodNamed Bd.named
  have X0 : Stand p l e ({ frames := 1, cells := 0, slots := 0, locals := 12 } : Room) s m #[(.ref c5)] below meth c s₁ [] 0 0 := Stand.of_body Bd
  have e0 : s₁.heap = h0 := by rw [← hh, Bd.state]; rfl
  have N0 := Fr.nil n0
  have pre0 : ∀ t, Steps p.tables e below (s₁.setTop (mkF m 0 #[.val (.ref c5)] [])) t → Steps p.tables e below (s₁.setTop (entryFrame m #[(.ref c5)] 1)) t := fun t k => castTop (own_ef3 m c5) k
  obtain ⟨T1, X1, e1, st1⟩ := getS2 X0 hx hZ hown (host := "") (Or.inl (hw _ (List.mem_of_getElem? (i := 22) rfl))) Via.refl e0 S0 (g := (mkF m 1 #[.val (.ref c5)] [(.ref c5)])) rfl (hb hby own_d3_1)
  obtain ⟨cq2, kq2, q2a, q2b, q2c⟩ := isOf hZ e1 E5
  obtain ⟨_, _, ⟨T2, L2, k2, n2⟩, -, X2, ⟨Lc2, hQ2, l2, y2, z2⟩, st2⟩ := X1.virtualBack hx (y := (⟨"com/example/wengao/wengao/mapping/AuditRole", "isStampedOnDelete", "()Z"⟩ : MethodName)) (z := (⟨"com/example/wengao/wengao/mapping/AuditRole", "isStampedOnDelete", "()Z"⟩ : MethodName)) hown (mvT hZ (hw _ (List.mem_of_getElem? (i := 25) rfl))) (mvT hZ (hw _ (List.mem_of_getElem? (i := 9) rfl))) (notFace_of_selects (args := #[]) (mvT hZ (hw _ (List.mem_of_getElem? (i := 11) rfl)))) (mvT hZ (hw _ (List.mem_of_getElem? (i := 11) rfl))) (mvT hZ (hw _ (List.mem_of_getElem? (i := 10) rfl))) (by decide) (backOf (W := 0) (own_r2_2 l Z a0 hw [] c0 c1 c2 c3 c4 c5 c6 h0 n0 Z0 K) hZ (hw _ (List.mem_of_getElem? (i := 12) rfl)) (hw _ (List.mem_of_getElem? (i := 6) rfl)) (by decide) (by decide)) q2a q2c (g := (mkF m 8 #[.val (.ref c5)] [(.ref c5)])) rfl (by rw [hml]; rfl) (Steps.refl _) (argsL := []) (rest := []) (lenOf own_pd1 rfl) rfl (by show 2 * 0 + _ ≤ _; exact Nat.le_of_eq rfl) (hb hby own_d3_8) (fun _ _ => ⟨rfl, e1, (by decide : 0 + 0 ≤ _), (by decide : 0 + 0 ≤ _)⟩)
  dsimp only [Pt.U, Pt.locs, Pt.cells, Pt.slots] at X2 l2 y2 z2 st2 hQ2
  subst l2 y2 z2
  obtain ⟨rfl, N2q, e2⟩ := hQ2
  have N2 := Fr.app N0 N2q
  obtain ⟨fs, hr, hrun, hended, hW, hsame⟩ := X2.leave (v := some (.int (1 : Int32))) (fun h => by rw [Bd.returns] at h; cases h)
  refine ⟨_, _, pre0 _ ?_, hrun, hended, _, _, rfl, ?_, ⟨_, rfl⟩, hW, hsame.mono (by decide) (by decide)⟩
  · show Steps p.tables e below (s₁.setTop (mkF m 0 #[.val (.ref c5)] [])) _
    refine XS.aloadN X0.here hx rfl (hb hby own_d3_0) rfl rfl ?_
    show Steps p.tables e below (s₁.setTop (mkF m 1 #[.val (.ref c5)] [(.ref c5)])) _
    refine st1 _ ?_
    show Steps p.tables e below (T1.setTop (mkF m 4 #[.val (.ref c5)] [(.ref c0), (.ref c5)])) _
    refine Jvm.RoadKit.acmp (g := (mkF m 4 #[.val (.ref c5)] [(.ref c0), (.ref c5)])) X1 hx rfl rfl rfl (pc0 := 4) (pc' := 7) (same := false) rfl (hb hby own_d3_4) rfl (decide_eq_false fun q => ne_5_0 (Value.ref.inj q)) (by decide) (by decide) ?_
    show Steps p.tables e below (T1.setTop (mkF m 7 #[.val (.ref c5)] [])) _
    refine XS.aloadN X1.here hx rfl (hb hby own_d3_7) rfl rfl ?_
    show Steps p.tables e below (T1.setTop (mkF m 8 #[.val (.ref c5)] [(.ref c5)])) _
    refine st2.trans ?_
    show Steps p.tables e below (T2.setTop (mkF m 11 #[.val (.ref c5)] [(.int (0 : Int32))])) _
    refine XS.ifNo X2.here hx rfl (hb hby own_d3_11) rfl ((if0 _ _).trans (teq (by decide : (0 : Int32) = (0 : Int32))).2) ?_
    show Steps p.tables e below (T2.setTop (mkF m 14 #[.val (.ref c5)] [])) _
    refine XS.iconst X2.here hx rfl (hb hby own_d3_14) ?_
    show Steps p.tables e below (T2.setTop (mkF m 15 #[.val (.ref c5)] [(.int (1 : Int32))])) _
    refine XS.goto X2.here hx rfl (pc0 := 15) (pc' := 19) rfl (hb hby own_d3_15) (by decide) (by decide) ?_
    show Steps p.tables e below (T2.setTop (mkF m 19 #[.val (.ref c5)] [(.int (1 : Int32))])) _
    exact retN X2 hx (t := .boolean) Bd.returns (by simp) (hb hby own_d3_19) hr
  · show own_Q _ h0 n0 _ T2.heap _
    exact ⟨rfl, N2, e2⟩
set_option maxRecDepth 65536 in
set_option maxHeartbeats 40000000 in
theorem own_r0_2 (l : Launch) (Z : State) (a0 : Array Value) (hw : ∀ d ∈ tables_1, d.before a0 Z = true) (ws : List Jvm.Cond) (p0 : Int32) (c0 c1 c2 c3 c4 c5 c6 : Addr) (h0 : Heap) (n0 : Nat) (Z0 : n0 ≤ h0.size) (K : own_W Z h0 c0 c1 c2 c3 c4 c5 c6) (hk0 : ((p0 &&& (2147483647 : Int32)) % (7 : Int32)) = (2 : Int32)) :
    MetFree l x (head1 (Jvm.Cond.code x code maxLocals ret :: ws) room_1) (fun a U => a = #[(.int p0)] ∧ Z.Warmed39 U.vm ∧ U.heap = h0) (fun _ _ _ _ _ => True) (fun _ U o U' => ∃ v L, o = .returned v ∧ own_Q (.int (1 : Int32)) h0 n0 v U'.heap L ∧ FrameEnd U o U' L room_1.cells room_1.slots) := by
  have K' := K
  obtain ⟨S0, E0, S1, E1, S2, E2, S3, E3, S4, E4, S5, E5, S6, E6, F0, F1, F2, F3, F4, F5, F6⟩ := K'
  refine MetFree.of_bodySF (plainFor_of_name own_pn0) hisR ?_
  intro p e s m args below meth c s₁ Bd hml0 hP hK
  obtain ⟨rfl, hZ, hh⟩ := hP
  have hx := Bd.exec
  have hby := Bd.bytes
  have hml : c.maxLocals = 8 := hml0
  have hown : s.vm.findClass "com/example/wengao/wengao/mapping/AuditRoleIsStampedOnDeletePinLaw" = some m.cls := findClass_of_methodNamed Bd.named
  have X0 : Stand p l e room_1 s m #[(.int p0)] below meth c s₁ [] 0 0 := Stand.of_body Bd
  have e0 : s₁.heap = h0 := by rw [← hh, Bd.state]; rfl
  have N0 := Fr.nil n0
  have pre0 : ∀ t, Steps p.tables e below (s₁.setTop (mkF m 0 #[.val (.int p0), .unset, .unset, .unset, .unset, .unset, .unset, .unset] [])) t → Steps p.tables e below (s₁.setTop (entryFrame m #[(.int p0)] maxLocals)) t := fun t k => castTop (own_ef0 m p0) k
  obtain ⟨_, _, ⟨T1, L1, k1, n1⟩, -, X1, ⟨Lc1, hQ1, l1, y1, z1⟩, st1⟩ := Jvm.LawKit.callS X0 hx (y := (⟨"com/example/wengao/wengao/mapping/AuditRoleIsStampedOnDeletePinLaw", "pick", "(I)Lcom/example/wengao/wengao/mapping/AuditRole;"⟩ : MethodName)) hown (mvT hZ (hw _ (List.mem_of_getElem? (i := 1) rfl))) (mvT hZ (hw _ (List.mem_of_getElem? (i := 2) rfl))) (mvT hZ (hw _ (List.mem_of_getElem? (i := 3) rfl))) (mvT hZ (hw _ (List.mem_of_getElem? (i := 4) rfl))) (by decide) (backOf (W := 0) (own_r1_2 l Z a0 hw [] c0 c1 c2 c3 c4 c5 c6 h0 n0 Z0 K) hZ (hw _ (List.mem_of_getElem? (i := 4) rfl)) (hw _ (List.mem_of_getElem? (i := 3) rfl)) (by decide) (by decide)) (g := (mkF m 9 #[.val (.int p0), .val (.int (2 : Int32)), .unset, .unset, .unset, .unset, .unset, .unset] [(.int (2 : Int32))])) rfl (by rw [hml]; rfl) (argsL := [(.int (2 : Int32))]) (rest := []) (lenOf own_pd0 rfl) rfl (by show 2 * 0 + _ ≤ _; exact Nat.le_of_eq rfl) (hb hby at_9) (fun _ _ => ⟨rfl, e0, (by decide : 0 + 0 ≤ _), (by decide : 0 + 0 ≤ _)⟩)
  dsimp only [Pt.U, Pt.locs, Pt.cells, Pt.slots] at X1 l1 y1 z1 st1 hQ1
  subst l1 y1 z1
  obtain ⟨rfl, N1q, e1⟩ := hQ1
  have N1 := Fr.app N0 N1q
  obtain ⟨cq2, kq2, q2a, q2b, q2c⟩ := isOf hZ e1 E5
  obtain ⟨_, _, ⟨T2, L2, k2, n2⟩, -, X2, ⟨Lc2, hQ2, l2, y2, z2⟩, st2⟩ := X1.virtualBack hx (y := (⟨"com/example/wengao/wengao/mapping/AuditRole", "isStampedOnDelete", "()Z"⟩ : MethodName)) (z := (⟨"com/example/wengao/wengao/mapping/AuditRole", "isStampedOnDelete", "()Z"⟩ : MethodName)) hown (mvT hZ (hw _ (List.mem_of_getElem? (i := 8) rfl))) (mvT hZ (hw _ (List.mem_of_getElem? (i := 9) rfl))) (notFace_of_selects (args := #[]) (mvT hZ (hw _ (List.mem_of_getElem? (i := 11) rfl)))) (mvT hZ (hw _ (List.mem_of_getElem? (i := 11) rfl))) (mvT hZ (hw _ (List.mem_of_getElem? (i := 10) rfl))) (by decide) (backOf (W := 0) (own_r2_2 l Z a0 hw [] c0 c1 c2 c3 c4 c5 c6 h0 n0 Z0 K) hZ (hw _ (List.mem_of_getElem? (i := 12) rfl)) (hw _ (List.mem_of_getElem? (i := 6) rfl)) (by decide) (by decide)) q2a q2c (g := (mkF m 31 #[.val (.int p0), .val (.int (2 : Int32)), .val (.ref c5), .val (.int (0 : Int32)), .unset, .unset, .unset, .unset] [(.ref c5)])) rfl (by rw [hml]; rfl) (Steps.refl _) (argsL := []) (rest := []) (lenOf own_pd1 rfl) rfl (by show 2 * 0 + _ ≤ _; exact Nat.le_of_eq rfl) (hb hby at_31) (fun _ _ => ⟨rfl, e1, (by decide : 0 + 0 ≤ _), (by decide : 0 + 0 ≤ _)⟩)
  dsimp only [Pt.U, Pt.locs, Pt.cells, Pt.slots] at X2 l2 y2 z2 st2 hQ2
  subst l2 y2 z2
  obtain ⟨rfl, N2q, e2⟩ := hQ2
  have N2 := Fr.app N1 N2q
  obtain ⟨cq3, kq3, q3a, q3b, q3c⟩ := isOf hZ e2 E5
  obtain ⟨_, _, ⟨T3, L3, k3, n3⟩, -, X3, ⟨Lc3, hQ3, l3, y3, z3⟩, st3⟩ := X2.virtualBack hx (y := (⟨"com/example/wengao/wengao/mapping/AuditRole", "isStampedOnSave", "()Z"⟩ : MethodName)) (z := (⟨"com/example/wengao/wengao/mapping/AuditRole", "isStampedOnSave", "()Z"⟩ : MethodName)) hown (mvT hZ (hw _ (List.mem_of_getElem? (i := 17) rfl))) (mvT hZ (hw _ (List.mem_of_getElem? (i := 18) rfl))) (notFace_of_selects (args := #[]) (mvT hZ (hw _ (List.mem_of_getElem? (i := 20) rfl)))) (mvT hZ (hw _ (List.mem_of_getElem? (i := 20) rfl))) (mvT hZ (hw _ (List.mem_of_getElem? (i := 19) rfl))) (by decide) (backOf (W := 0) (own_r3_2 l Z a0 hw [] c0 c1 c2 c3 c4 c5 c6 h0 n0 Z0 K) hZ (hw _ (List.mem_of_getElem? (i := 21) rfl)) (hw _ (List.mem_of_getElem? (i := 6) rfl)) (by decide) (by decide)) q3a q3c (g := (mkF m 56 #[.val (.int p0), .val (.int (2 : Int32)), .val (.ref c5), .val (.int (0 : Int32)), .val (.int (0 : Int32)), .val (.int (0 : Int32)), .unset, .unset] [(.ref c5)])) rfl (by rw [hml]; rfl) (Steps.refl _) (argsL := []) (rest := []) (lenOf own_pd1 rfl) rfl (by show 2 * 0 + _ ≤ _; exact Nat.le_of_eq rfl) (hb hby at_56) (fun _ _ => ⟨rfl, e2, (by decide : 0 + 0 ≤ _), (by decide : 0 + 0 ≤ _)⟩)
  dsimp only [Pt.U, Pt.locs, Pt.cells, Pt.slots] at X3 l3 y3 z3 st3 hQ3
  subst l3 y3 z3
  obtain ⟨rfl, N3q, e3⟩ := hQ3
  have N3 := Fr.app N2 N3q
  obtain ⟨fs, hr, hrun, hended, hW, hsame⟩ := X3.leave (v := some (.int (1 : Int32))) (fun h => by rw [Bd.returns] at h; cases h)
  refine ⟨_, _, pre0 _ ?_, hrun, hended, _, _, rfl, ?_, ⟨_, rfl⟩, hW, hsame.mono (by decide) (by decide)⟩
  · show Steps p.tables e below (s₁.setTop (mkF m 0 #[.val (.int p0), .unset, .unset, .unset, .unset, .unset, .unset, .unset] [])) _
    refine XS.iloadN X0.here hx rfl (hb hby at_0) rfl ?_
    show Steps p.tables e below (s₁.setTop (mkF m 1 #[.val (.int p0), .unset, .unset, .unset, .unset, .unset, .unset, .unset] [(.int p0)])) _
    refine X0.ldcInt hx hown (mvT hZ (hw _ (List.mem_of_getElem? (i := 0) rfl))) (g := (mkF m 1 #[.val (.int p0), .unset, .unset, .unset, .unset, .unset, .unset, .unset] [(.int p0)])) rfl (hb hby at_1) _ ?_
    show Steps p.tables e below (s₁.setTop (mkF m 3 #[.val (.int p0), .unset, .unset, .unset, .unset, .unset, .unset, .unset] [(.int (2147483647 : Int32)), (.int p0)])) _
    refine XS.iand X0.here hx rfl (hb hby at_3) rfl ?_
    show Steps p.tables e below (s₁.setTop (mkF m 4 #[.val (.int p0), .unset, .unset, .unset, .unset, .unset, .unset, .unset] [(.int (p0 &&& (2147483647 : Int32)))])) _
    refine XS.bipush X0.here hx rfl (hb hby at_4) ?_
    show Steps p.tables e below (s₁.setTop (mkF m 6 #[.val (.int p0), .unset, .unset, .unset, .unset, .unset, .unset, .unset] [(.int (7 : Int32)), (.int (p0 &&& (2147483647 : Int32)))])) _
    refine iremM X0 hx rfl (hb hby at_6) rfl (by decide) ?_
    show Steps p.tables e below (s₁.setTop (mkF m 7 #[.val (.int p0), .unset, .unset, .unset, .unset, .unset, .unset, .unset] [(.int ((p0 &&& (2147483647 : Int32)) % (7 : Int32)))])) _
    rw [hk0]
    show Steps p.tables e below (s₁.setTop (mkF m 7 #[.val (.int p0), .unset, .unset, .unset, .unset, .unset, .unset, .unset] [(.int (2 : Int32))])) _
    refine XS.istoreN X0.here hx rfl (hb hby at_7) rfl (l' := #[.val (.int p0), .val (.int (2 : Int32)), .unset, .unset, .unset, .unset, .unset, .unset]) rfl ?_
    show Steps p.tables e below (s₁.setTop (mkF m 8 #[.val (.int p0), .val (.int (2 : Int32)), .unset, .unset, .unset, .unset, .unset, .unset] [])) _
    refine XS.iloadN X0.here hx rfl (hb hby at_8) rfl ?_
    show Steps p.tables e below (s₁.setTop (mkF m 9 #[.val (.int p0), .val (.int (2 : Int32)), .unset, .unset, .unset, .unset, .unset, .unset] [(.int (2 : Int32))])) _
    refine st1 _ ?_
    show Steps p.tables e below (T1.setTop (mkF m 12 #[.val (.int p0), .val (.int (2 : Int32)), .unset, .unset, .unset, .unset, .unset, .unset] [(.ref c5)])) _
    refine XS.astoreN X1.here hx rfl (hb hby at_12) rfl rfl (l' := #[.val (.int p0), .val (.int (2 : Int32)), .val (.ref c5), .unset, .unset, .unset, .unset, .unset]) rfl ?_
    show Steps p.tables e below (T1.setTop (mkF m 13 #[.val (.int p0), .val (.int (2 : Int32)), .val (.ref c5), .unset, .unset, .unset, .unset, .unset] [])) _
    refine XS.iloadN X1.here hx rfl (hb hby at_13) rfl ?_
    show Steps p.tables e below (T1.setTop (mkF m 14 #[.val (.int p0), .val (.int (2 : Int32)), .val (.ref c5), .unset, .unset, .unset, .unset, .unset] [(.int (2 : Int32))])) _
    refine XS.iconst X1.here hx rfl (hb hby at_14) ?_
    show Steps p.tables e below (T1.setTop (mkF m 15 #[.val (.int p0), .val (.int (2 : Int32)), .val (.ref c5), .unset, .unset, .unset, .unset, .unset] [(.int (5 : Int32)), (.int (2 : Int32))])) _
    refine XS.icmpNo X1.here hx rfl (hb hby at_15) rfl (feq (by decide : ¬ ((2 : Int32) = (5 : Int32)))).1 ?_
    show Steps p.tables e below (T1.setTop (mkF m 18 #[.val (.int p0), .val (.int (2 : Int32)), .val (.ref c5), .unset, .unset, .unset, .unset, .unset] [])) _
    refine XS.iloadN X1.here hx rfl (hb hby at_18) rfl ?_
    show Steps p.tables e below (T1.setTop (mkF m 19 #[.val (.int p0), .val (.int (2 : Int32)), .val (.ref c5), .unset, .unset, .unset, .unset, .unset] [(.int (2 : Int32))])) _
    refine XS.bipush X1.here hx rfl (hb hby at_19) ?_
    show Steps p.tables e below (T1.setTop (mkF m 21 #[.val (.int p0), .val (.int (2 : Int32)), .val (.ref c5), .unset, .unset, .unset, .unset, .unset] [(.int (6 : Int32)), (.int (2 : Int32))])) _
    refine XS.icmpYes X1.here hx rfl (pc0 := 21) (pc' := 28) rfl (hb hby at_21) rfl (feq (by decide : ¬ ((2 : Int32) = (6 : Int32)))).2 (by decide) (by decide) ?_
    show Steps p.tables e below (T1.setTop (mkF m 28 #[.val (.int p0), .val (.int (2 : Int32)), .val (.ref c5), .unset, .unset, .unset, .unset, .unset] [])) _
    refine XS.iconst X1.here hx rfl (hb hby at_28) ?_
    show Steps p.tables e below (T1.setTop (mkF m 29 #[.val (.int p0), .val (.int (2 : Int32)), .val (.ref c5), .unset, .unset, .unset, .unset, .unset] [(.int (0 : Int32))])) _
    refine XS.istoreN X1.here hx rfl (hb hby at_29) rfl (l' := #[.val (.int p0), .val (.int (2 : Int32)), .val (.ref c5), .val (.int (0 : Int32)), .unset, .unset, .unset, .unset]) rfl ?_
    show Steps p.tables e below (T1.setTop (mkF m 30 #[.val (.int p0), .val (.int (2 : Int32)), .val (.ref c5), .val (.int (0 : Int32)), .unset, .unset, .unset, .unset] [])) _
    refine XS.aloadN X1.here hx rfl (hb hby at_30) rfl rfl ?_
    show Steps p.tables e below (T1.setTop (mkF m 31 #[.val (.int p0), .val (.int (2 : Int32)), .val (.ref c5), .val (.int (0 : Int32)), .unset, .unset, .unset, .unset] [(.ref c5)])) _
    refine st2.trans ?_
    show Steps p.tables e below (T2.setTop (mkF m 34 #[.val (.int p0), .val (.int (2 : Int32)), .val (.ref c5), .val (.int (0 : Int32)), .unset, .unset, .unset, .unset] [(.int (0 : Int32))])) _
    refine XS.istore X2.here hx rfl (hb hby at_34) rfl (l' := #[.val (.int p0), .val (.int (2 : Int32)), .val (.ref c5), .val (.int (0 : Int32)), .val (.int (0 : Int32)), .unset, .unset, .unset]) rfl ?_
    show Steps p.tables e below (T2.setTop (mkF m 36 #[.val (.int p0), .val (.int (2 : Int32)), .val (.ref c5), .val (.int (0 : Int32)), .val (.int (0 : Int32)), .unset, .unset, .unset] [])) _
    refine XS.iload X2.here hx rfl (hb hby at_36) rfl ?_
    show Steps p.tables e below (T2.setTop (mkF m 38 #[.val (.int p0), .val (.int (2 : Int32)), .val (.ref c5), .val (.int (0 : Int32)), .val (.int (0 : Int32)), .unset, .unset, .unset] [(.int (0 : Int32))])) _
    refine XS.iloadN X2.here hx rfl (hb hby at_38) rfl ?_
    show Steps p.tables e below (T2.setTop (mkF m 39 #[.val (.int p0), .val (.int (2 : Int32)), .val (.ref c5), .val (.int (0 : Int32)), .val (.int (0 : Int32)), .unset, .unset, .unset] [(.int (0 : Int32)), (.int (0 : Int32))])) _
    refine XS.icmpYes X2.here hx rfl (pc0 := 39) (pc' := 44) rfl (hb hby at_39) rfl (teq (by decide : (0 : Int32) = (0 : Int32))).1 (by decide) (by decide) ?_
    show Steps p.tables e below (T2.setTop (mkF m 44 #[.val (.int p0), .val (.int (2 : Int32)), .val (.ref c5), .val (.int (0 : Int32)), .val (.int (0 : Int32)), .unset, .unset, .unset] [])) _
    refine XS.iloadN X2.here hx rfl (hb hby at_44) rfl ?_
    show Steps p.tables e below (T2.setTop (mkF m 45 #[.val (.int p0), .val (.int (2 : Int32)), .val (.ref c5), .val (.int (0 : Int32)), .val (.int (0 : Int32)), .unset, .unset, .unset] [(.int (2 : Int32))])) _
    refine XS.ifYes X2.here hx rfl (pc0 := 45) (pc' := 52) rfl (hb hby at_45) rfl ((if0 _ _).trans (feq (by decide : ¬ ((2 : Int32) = (0 : Int32)))).2) (by decide) (by decide) ?_
    show Steps p.tables e below (T2.setTop (mkF m 52 #[.val (.int p0), .val (.int (2 : Int32)), .val (.ref c5), .val (.int (0 : Int32)), .val (.int (0 : Int32)), .unset, .unset, .unset] [])) _
    refine XS.iconst X2.here hx rfl (hb hby at_52) ?_
    show Steps p.tables e below (T2.setTop (mkF m 53 #[.val (.int p0), .val (.int (2 : Int32)), .val (.ref c5), .val (.int (0 : Int32)), .val (.int (0 : Int32)), .unset, .unset, .unset] [(.int (0 : Int32))])) _
    refine XS.istore X2.here hx rfl (hb hby at_53) rfl (l' := #[.val (.int p0), .val (.int (2 : Int32)), .val (.ref c5), .val (.int (0 : Int32)), .val (.int (0 : Int32)), .val (.int (0 : Int32)), .unset, .unset]) rfl ?_
    show Steps p.tables e below (T2.setTop (mkF m 55 #[.val (.int p0), .val (.int (2 : Int32)), .val (.ref c5), .val (.int (0 : Int32)), .val (.int (0 : Int32)), .val (.int (0 : Int32)), .unset, .unset] [])) _
    refine XS.aloadN X2.here hx rfl (hb hby at_55) rfl rfl ?_
    show Steps p.tables e below (T2.setTop (mkF m 56 #[.val (.int p0), .val (.int (2 : Int32)), .val (.ref c5), .val (.int (0 : Int32)), .val (.int (0 : Int32)), .val (.int (0 : Int32)), .unset, .unset] [(.ref c5)])) _
    refine st3.trans ?_
    show Steps p.tables e below (T3.setTop (mkF m 59 #[.val (.int p0), .val (.int (2 : Int32)), .val (.ref c5), .val (.int (0 : Int32)), .val (.int (0 : Int32)), .val (.int (0 : Int32)), .unset, .unset] [(.int (1 : Int32))])) _
    refine XS.istore X3.here hx rfl (hb hby at_59) rfl (l' := #[.val (.int p0), .val (.int (2 : Int32)), .val (.ref c5), .val (.int (0 : Int32)), .val (.int (0 : Int32)), .val (.int (0 : Int32)), .val (.int (1 : Int32)), .unset]) rfl ?_
    show Steps p.tables e below (T3.setTop (mkF m 61 #[.val (.int p0), .val (.int (2 : Int32)), .val (.ref c5), .val (.int (0 : Int32)), .val (.int (0 : Int32)), .val (.int (0 : Int32)), .val (.int (1 : Int32)), .unset] [])) _
    refine XS.iload X3.here hx rfl (hb hby at_61) rfl ?_
    show Steps p.tables e below (T3.setTop (mkF m 63 #[.val (.int p0), .val (.int (2 : Int32)), .val (.ref c5), .val (.int (0 : Int32)), .val (.int (0 : Int32)), .val (.int (0 : Int32)), .val (.int (1 : Int32)), .unset] [(.int (0 : Int32))])) _
    refine XS.ifYes X3.here hx rfl (pc0 := 63) (pc' := 70) rfl (hb hby at_63) rfl ((if0 _ _).trans (teq (by decide : (0 : Int32) = (0 : Int32))).1) (by decide) (by decide) ?_
    show Steps p.tables e below (T3.setTop (mkF m 70 #[.val (.int p0), .val (.int (2 : Int32)), .val (.ref c5), .val (.int (0 : Int32)), .val (.int (0 : Int32)), .val (.int (0 : Int32)), .val (.int (1 : Int32)), .unset] [])) _
    refine XS.iconst X3.here hx rfl (hb hby at_70) ?_
    show Steps p.tables e below (T3.setTop (mkF m 71 #[.val (.int p0), .val (.int (2 : Int32)), .val (.ref c5), .val (.int (0 : Int32)), .val (.int (0 : Int32)), .val (.int (0 : Int32)), .val (.int (1 : Int32)), .unset] [(.int (0 : Int32))])) _
    refine XS.iload X3.here hx rfl (hb hby at_71) rfl ?_
    show Steps p.tables e below (T3.setTop (mkF m 73 #[.val (.int p0), .val (.int (2 : Int32)), .val (.ref c5), .val (.int (0 : Int32)), .val (.int (0 : Int32)), .val (.int (0 : Int32)), .val (.int (1 : Int32)), .unset] [(.int (1 : Int32)), (.int (0 : Int32))])) _
    refine XS.ifNo X3.here hx rfl (hb hby at_73) rfl ((if0 _ _).trans (feq (by decide : ¬ ((1 : Int32) = (0 : Int32)))).1) ?_
    show Steps p.tables e below (T3.setTop (mkF m 76 #[.val (.int p0), .val (.int (2 : Int32)), .val (.ref c5), .val (.int (0 : Int32)), .val (.int (0 : Int32)), .val (.int (0 : Int32)), .val (.int (1 : Int32)), .unset] [(.int (0 : Int32))])) _
    refine XS.iconst X3.here hx rfl (hb hby at_76) ?_
    show Steps p.tables e below (T3.setTop (mkF m 77 #[.val (.int p0), .val (.int (2 : Int32)), .val (.ref c5), .val (.int (0 : Int32)), .val (.int (0 : Int32)), .val (.int (0 : Int32)), .val (.int (1 : Int32)), .unset] [(.int (1 : Int32)), (.int (0 : Int32))])) _
    refine XS.goto X3.here hx rfl (pc0 := 77) (pc' := 81) rfl (hb hby at_77) (by decide) (by decide) ?_
    show Steps p.tables e below (T3.setTop (mkF m 81 #[.val (.int p0), .val (.int (2 : Int32)), .val (.ref c5), .val (.int (0 : Int32)), .val (.int (0 : Int32)), .val (.int (0 : Int32)), .val (.int (1 : Int32)), .unset] [(.int (1 : Int32)), (.int (0 : Int32))])) _
    refine XS.iadd X3.here hx rfl (hb hby at_81) rfl ?_
    show Steps p.tables e below (T3.setTop (mkF m 82 #[.val (.int p0), .val (.int (2 : Int32)), .val (.ref c5), .val (.int (0 : Int32)), .val (.int (0 : Int32)), .val (.int (0 : Int32)), .val (.int (1 : Int32)), .unset] [(.int ((0 : Int32) + (1 : Int32)))])) _
    refine XS.iload X3.here hx rfl (hb hby at_82) rfl ?_
    show Steps p.tables e below (T3.setTop (mkF m 84 #[.val (.int p0), .val (.int (2 : Int32)), .val (.ref c5), .val (.int (0 : Int32)), .val (.int (0 : Int32)), .val (.int (0 : Int32)), .val (.int (1 : Int32)), .unset] [(.int (0 : Int32)), (.int ((0 : Int32) + (1 : Int32)))])) _
    refine XS.ifYes X3.here hx rfl (pc0 := 84) (pc' := 91) rfl (hb hby at_84) rfl ((if0 _ _).trans (teq (by decide : (0 : Int32) = (0 : Int32))).1) (by decide) (by decide) ?_
    show Steps p.tables e below (T3.setTop (mkF m 91 #[.val (.int p0), .val (.int (2 : Int32)), .val (.ref c5), .val (.int (0 : Int32)), .val (.int (0 : Int32)), .val (.int (0 : Int32)), .val (.int (1 : Int32)), .unset] [(.int ((0 : Int32) + (1 : Int32)))])) _
    refine XS.iconst X3.here hx rfl (hb hby at_91) ?_
    show Steps p.tables e below (T3.setTop (mkF m 92 #[.val (.int p0), .val (.int (2 : Int32)), .val (.ref c5), .val (.int (0 : Int32)), .val (.int (0 : Int32)), .val (.int (0 : Int32)), .val (.int (1 : Int32)), .unset] [(.int (0 : Int32)), (.int ((0 : Int32) + (1 : Int32)))])) _
    refine XS.iadd X3.here hx rfl (hb hby at_92) rfl ?_
    show Steps p.tables e below (T3.setTop (mkF m 93 #[.val (.int p0), .val (.int (2 : Int32)), .val (.ref c5), .val (.int (0 : Int32)), .val (.int (0 : Int32)), .val (.int (0 : Int32)), .val (.int (1 : Int32)), .unset] [(.int (((0 : Int32) + (1 : Int32)) + (0 : Int32)))])) _
    refine XS.istore X3.here hx rfl (hb hby at_93) rfl (l' := #[.val (.int p0), .val (.int (2 : Int32)), .val (.ref c5), .val (.int (0 : Int32)), .val (.int (0 : Int32)), .val (.int (0 : Int32)), .val (.int (1 : Int32)), .val (.int (((0 : Int32) + (1 : Int32)) + (0 : Int32)))]) rfl ?_
    show Steps p.tables e below (T3.setTop (mkF m 95 #[.val (.int p0), .val (.int (2 : Int32)), .val (.ref c5), .val (.int (0 : Int32)), .val (.int (0 : Int32)), .val (.int (0 : Int32)), .val (.int (1 : Int32)), .val (.int (((0 : Int32) + (1 : Int32)) + (0 : Int32)))] [])) _
    refine XS.iload X3.here hx rfl (hb hby at_95) rfl ?_
    show Steps p.tables e below (T3.setTop (mkF m 97 #[.val (.int p0), .val (.int (2 : Int32)), .val (.ref c5), .val (.int (0 : Int32)), .val (.int (0 : Int32)), .val (.int (0 : Int32)), .val (.int (1 : Int32)), .val (.int (((0 : Int32) + (1 : Int32)) + (0 : Int32)))] [(.int (((0 : Int32) + (1 : Int32)) + (0 : Int32)))])) _
    refine XS.iconst X3.here hx rfl (hb hby at_97) ?_
    show Steps p.tables e below (T3.setTop (mkF m 98 #[.val (.int p0), .val (.int (2 : Int32)), .val (.ref c5), .val (.int (0 : Int32)), .val (.int (0 : Int32)), .val (.int (0 : Int32)), .val (.int (1 : Int32)), .val (.int (((0 : Int32) + (1 : Int32)) + (0 : Int32)))] [(.int (1 : Int32)), (.int (((0 : Int32) + (1 : Int32)) + (0 : Int32)))])) _
    refine XS.icmpNo X3.here hx rfl (hb hby at_98) rfl (teq (by decide : (((0 : Int32) + (1 : Int32)) + (0 : Int32)) = (1 : Int32))).2 ?_
    show Steps p.tables e below (T3.setTop (mkF m 101 #[.val (.int p0), .val (.int (2 : Int32)), .val (.ref c5), .val (.int (0 : Int32)), .val (.int (0 : Int32)), .val (.int (0 : Int32)), .val (.int (1 : Int32)), .val (.int (((0 : Int32) + (1 : Int32)) + (0 : Int32)))] [])) _
    refine XS.iconst X3.here hx rfl (hb hby at_101) ?_
    show Steps p.tables e below (T3.setTop (mkF m 102 #[.val (.int p0), .val (.int (2 : Int32)), .val (.ref c5), .val (.int (0 : Int32)), .val (.int (0 : Int32)), .val (.int (0 : Int32)), .val (.int (1 : Int32)), .val (.int (((0 : Int32) + (1 : Int32)) + (0 : Int32)))] [(.int (1 : Int32))])) _
    refine XS.goto X3.here hx rfl (pc0 := 102) (pc' := 106) rfl (hb hby at_102) (by decide) (by decide) ?_
    show Steps p.tables e below (T3.setTop (mkF m 106 #[.val (.int p0), .val (.int (2 : Int32)), .val (.ref c5), .val (.int (0 : Int32)), .val (.int (0 : Int32)), .val (.int (0 : Int32)), .val (.int (1 : Int32)), .val (.int (((0 : Int32) + (1 : Int32)) + (0 : Int32)))] [(.int (1 : Int32))])) _
    exact retN X3 hx (t := .boolean) Bd.returns (by simp) (hb hby at_106) hr
  · show own_Q _ h0 n0 _ T3.heap _
    exact ⟨rfl, N3, e3⟩
theorem own_d1_26 : decode method_3_code 26 = .ok (.iload_n 0, 1) := by decide +kernel
theorem own_d1_27 : decode method_3_code 27 = .ok (.iconst 3, 1) := by decide +kernel
theorem own_d1_28 : decode method_3_code 28 = .ok (.if_icmp .ne 7, 3) := by decide +kernel
theorem own_d1_31 : decode method_3_code 31 = .ok (.getstatic 33, 3) := by decide +kernel
theorem own_d1_34 : decode method_3_code 34 = .ok (.areturn, 1) := by decide +kernel
set_option maxRecDepth 65536 in
set_option maxHeartbeats 40000000 in
theorem own_r1_3 (l : Launch) (Z : State) (a0 : Array Value) (hw : ∀ d ∈ tables_1, d.before a0 Z = true) (ws : List Jvm.Cond)  (c0 c1 c2 c3 c4 c5 c6 : Addr) (h0 : Heap) (n0 : Nat) (Z0 : n0 ≤ h0.size) (K : own_W Z h0 c0 c1 c2 c3 c4 c5 c6)  :
    MetFree l (⟨"com/example/wengao/wengao/mapping/AuditRoleIsStampedOnDeletePinLaw", "pick", "(I)Lcom/example/wengao/wengao/mapping/AuditRole;"⟩ : MethodName) (head1 (Jvm.Cond.code (⟨"com/example/wengao/wengao/mapping/AuditRoleIsStampedOnDeletePinLaw", "pick", "(I)Lcom/example/wengao/wengao/mapping/AuditRole;"⟩ : MethodName) method_3_code 1 (some (.object "com/example/wengao/wengao/mapping/AuditRole")) :: ws) ({ frames := 0, cells := 0, slots := 0, locals := 0 } : Room)) (fun a U => a = #[(.int (3 : Int32))] ∧ Z.Warmed39 U.vm ∧ U.heap = h0) (fun _ _ _ _ _ => True) (fun _ U o U' => ∃ v L, o = .returned v ∧ own_Q (.ref c3) h0 n0 v U'.heap L ∧ FrameEnd U o U' L ({ frames := 0, cells := 0, slots := 0, locals := 0 } : Room).cells ({ frames := 0, cells := 0, slots := 0, locals := 0 } : Room).slots) := by
  have K' := K
  obtain ⟨S0, E0, S1, E1, S2, E2, S3, E3, S4, E4, S5, E5, S6, E6, F0, F1, F2, F3, F4, F5, F6⟩ := K'
  refine MetFree.of_bodySF (plainFor_of_name own_pn0) hisR ?_
  intro p e s m args below meth c s₁ Bd hml0 hP hK
  obtain ⟨rfl, hZ, hh⟩ := hP
  have hx := Bd.exec
  have hby := Bd.bytes
  have hml : c.maxLocals = 1 := hml0
  have hown : s.vm.findClass "com/example/wengao/wengao/mapping/AuditRoleIsStampedOnDeletePinLaw" = some m.cls := findClass_of_methodNamed Bd.named
  have X0 : Stand p l e ({ frames := 0, cells := 0, slots := 0, locals := 0 } : Room) s m #[(.int (3 : Int32))] below meth c s₁ [] 0 0 := Stand.of_body Bd
  have e0 : s₁.heap = h0 := by rw [← hh, Bd.state]; rfl
  have N0 := Fr.nil n0
  have pre0 : ∀ t, Steps p.tables e below (s₁.setTop (mkF m 0 #[.val (.int (3 : Int32))] [])) t → Steps p.tables e below (s₁.setTop (entryFrame m #[(.int (3 : Int32))] 1)) t := fun t k => castTop (own_ef1 m (3 : Int32)) k
  obtain ⟨T1, X1, e1, st1⟩ := getS2 X0 hx hZ hown (host := "") (Or.inl (hw _ (List.mem_of_getElem? (i := 23) rfl))) Via.refl e0 S3 (g := (mkF m 31 #[.val (.int (3 : Int32))] [])) rfl (hb hby own_d1_31)
  obtain ⟨fs, hr, hrun, hended, hW, hsame⟩ := X1.leave (v := some (.ref c3)) (fun h => by rw [Bd.returns] at h; cases h)
  refine ⟨_, _, pre0 _ ?_, hrun, hended, _, _, rfl, ?_, ⟨_, rfl⟩, hW, hsame.mono (by decide) (by decide)⟩
  · show Steps p.tables e below (s₁.setTop (mkF m 0 #[.val (.int (3 : Int32))] [])) _
    refine XS.iloadN X0.here hx rfl (hb hby own_d1_0) rfl ?_
    show Steps p.tables e below (s₁.setTop (mkF m 1 #[.val (.int (3 : Int32))] [(.int (3 : Int32))])) _
    refine XS.ifYes X0.here hx rfl (pc0 := 1) (pc' := 8) rfl (hb hby own_d1_1) rfl ((if0 _ _).trans (feq (by decide : ¬ ((3 : Int32) = (0 : Int32)))).2) (by decide) (by decide) ?_
    show Steps p.tables e below (s₁.setTop (mkF m 8 #[.val (.int (3 : Int32))] [])) _
    refine XS.iloadN X0.here hx rfl (hb hby own_d1_8) rfl ?_
    show Steps p.tables e below (s₁.setTop (mkF m 9 #[.val (.int (3 : Int32))] [(.int (3 : Int32))])) _
    refine XS.iconst X0.here hx rfl (hb hby own_d1_9) ?_
    show Steps p.tables e below (s₁.setTop (mkF m 10 #[.val (.int (3 : Int32))] [(.int (1 : Int32)), (.int (3 : Int32))])) _
    refine XS.icmpYes X0.here hx rfl (pc0 := 10) (pc' := 17) rfl (hb hby own_d1_10) rfl (feq (by decide : ¬ ((3 : Int32) = (1 : Int32)))).2 (by decide) (by decide) ?_
    show Steps p.tables e below (s₁.setTop (mkF m 17 #[.val (.int (3 : Int32))] [])) _
    refine XS.iloadN X0.here hx rfl (hb hby own_d1_17) rfl ?_
    show Steps p.tables e below (s₁.setTop (mkF m 18 #[.val (.int (3 : Int32))] [(.int (3 : Int32))])) _
    refine XS.iconst X0.here hx rfl (hb hby own_d1_18) ?_
    show Steps p.tables e below (s₁.setTop (mkF m 19 #[.val (.int (3 : Int32))] [(.int (2 : Int32)), (.int (3 : Int32))])) _
    refine XS.icmpYes X0.here hx rfl (pc0 := 19) (pc' := 26) rfl (hb hby own_d1_19) rfl (feq (by decide : ¬ ((3 : Int32) = (2 : Int32)))).2 (by decide) (by decide) ?_
    show Steps p.tables e below (s₁.setTop (mkF m 26 #[.val (.int (3 : Int32))] [])) _
    refine XS.iloadN X0.here hx rfl (hb hby own_d1_26) rfl ?_
    show Steps p.tables e below (s₁.setTop (mkF m 27 #[.val (.int (3 : Int32))] [(.int (3 : Int32))])) _
    refine XS.iconst X0.here hx rfl (hb hby own_d1_27) ?_
    show Steps p.tables e below (s₁.setTop (mkF m 28 #[.val (.int (3 : Int32))] [(.int (3 : Int32)), (.int (3 : Int32))])) _
    refine XS.icmpNo X0.here hx rfl (hb hby own_d1_28) rfl (teq (by decide : (3 : Int32) = (3 : Int32))).2 ?_
    show Steps p.tables e below (s₁.setTop (mkF m 31 #[.val (.int (3 : Int32))] [])) _
    refine st1 _ ?_
    show Steps p.tables e below (T1.setTop (mkF m 34 #[.val (.int (3 : Int32))] [(.ref c3)])) _
    jvm_step X1.here [X1.here.top, hx, (hb hby own_d1_34), X1.method', Bd.returns, Value.isRef, FieldType.isReference]
    first | (intro acts; rw [hr _ acts rfl rfl rfl]) | rw [hr _ _ rfl rfl rfl]
    exact Steps.refl _
  · show own_Q _ h0 n0 _ T1.heap _
    exact ⟨rfl, N0, e1⟩
set_option maxRecDepth 65536 in
set_option maxHeartbeats 40000000 in
theorem own_r2_3 (l : Launch) (Z : State) (a0 : Array Value) (hw : ∀ d ∈ tables_1, d.before a0 Z = true) (ws : List Jvm.Cond)  (c0 c1 c2 c3 c4 c5 c6 : Addr) (h0 : Heap) (n0 : Nat) (Z0 : n0 ≤ h0.size) (K : own_W Z h0 c0 c1 c2 c3 c4 c5 c6)  :
    MetFree l (⟨"com/example/wengao/wengao/mapping/AuditRole", "isStampedOnDelete", "()Z"⟩ : MethodName) (head1 (Jvm.Cond.code (⟨"com/example/wengao/wengao/mapping/AuditRole", "isStampedOnDelete", "()Z"⟩ : MethodName) prog_21_method_9_code 1 (some .boolean) :: ws) ({ frames := 0, cells := 0, slots := 0, locals := 0 } : Room)) (fun a U => a = #[(.ref c3)] ∧ Z.Warmed39 U.vm ∧ U.heap = h0) (fun _ _ _ _ _ => True) (fun _ U o U' => ∃ v L, o = .returned v ∧ own_Q (.int (0 : Int32)) h0 n0 v U'.heap L ∧ FrameEnd U o U' L ({ frames := 0, cells := 0, slots := 0, locals := 0 } : Room).cells ({ frames := 0, cells := 0, slots := 0, locals := 0 } : Room).slots) := by
  have K' := K
  obtain ⟨S0, E0, S1, E1, S2, E2, S3, E3, S4, E4, S5, E5, S6, E6, F0, F1, F2, F3, F4, F5, F6⟩ := K'
  have ne_3_1 : ¬ (c3 = c1) := (Fld.ne F3 F1 (fun q => absurd (Value.int.inj q) (by decide)))
  have ne_3_2 : ¬ (c3 = c2) := (Fld.ne F3 F2 (fun q => absurd (Value.int.inj q) (by decide)))
  refine MetFree.of_bodySF (plainFor_of_name own_pn1) hisR ?_
  intro p e s m args below meth c s₁ Bd hml0 hP hK
  obtain ⟨rfl, hZ, hh⟩ := hP
  have hx := Bd.exec
  have hby := Bd.bytes
  have hml : c.maxLocals = 1 := hml0
  have hown : s.vm.findClass "com/example/wengao/wengao/mapping/AuditRole" = some m.cls := findClass_of_methodNamed Bd.named
  have X0 : Stand p l e ({ frames := 0, cells := 0, slots := 0, locals := 0 } : Room) s m #[(.ref c3)] below meth c s₁ [] 0 0 := Stand.of_body Bd
  have e0 : s₁.heap = h0 := by rw [← hh, Bd.state]; rfl
  have N0 := Fr.nil n0
  have pre0 : ∀ t, Steps p.tables e below (s₁.setTop (mkF m 0 #[.val (.ref c3)] [])) t → Steps p.tables e below (s₁.setTop (entryFrame m #[(.ref c3)] 1)) t := fun t k => castTop (own_ef2 m c3) k
  obtain ⟨T1, X1, e1, st1⟩ := getS2 X0 hx hZ hown (host := "") (Or.inl (hw _ (List.mem_of_getElem? (i := 13) rfl))) Via.refl e0 S1 (g := (mkF m 1 #[.val (.ref c3)] [(.ref c3)])) rfl (hb hby own_d2_1)
  obtain ⟨T2, X2, e2, st2⟩ := getS2 X1 hx hZ hown (host := "") (Or.inl (hw _ (List.mem_of_getElem? (i := 15) rfl))) Via.refl e1 S2 (g := (mkF m 8 #[.val (.ref c3)] [(.ref c3)])) rfl (hb hby own_d2_8)
  obtain ⟨fs, hr, hrun, hended, hW, hsame⟩ := X2.leave (v := some (.int (0 : Int32))) (fun h => by rw [Bd.returns] at h; cases h)
  refine ⟨_, _, pre0 _ ?_, hrun, hended, _, _, rfl, ?_, ⟨_, rfl⟩, hW, hsame.mono (by decide) (by decide)⟩
  · show Steps p.tables e below (s₁.setTop (mkF m 0 #[.val (.ref c3)] [])) _
    refine XS.aloadN X0.here hx rfl (hb hby own_d2_0) rfl rfl ?_
    show Steps p.tables e below (s₁.setTop (mkF m 1 #[.val (.ref c3)] [(.ref c3)])) _
    refine st1 _ ?_
    show Steps p.tables e below (T1.setTop (mkF m 4 #[.val (.ref c3)] [(.ref c1), (.ref c3)])) _
    refine Jvm.RoadKit.acmp (g := (mkF m 4 #[.val (.ref c3)] [(.ref c1), (.ref c3)])) X1 hx rfl rfl rfl (pc0 := 4) (pc' := 7) (same := false) rfl (hb hby own_d2_4) rfl (decide_eq_false fun q => ne_3_1 (Value.ref.inj q)) (by decide) (by decide) ?_
    show Steps p.tables e below (T1.setTop (mkF m 7 #[.val (.ref c3)] [])) _
    refine XS.aloadN X1.here hx rfl (hb hby own_d2_7) rfl rfl ?_
    show Steps p.tables e below (T1.setTop (mkF m 8 #[.val (.ref c3)] [(.ref c3)])) _
    refine st2 _ ?_
    show Steps p.tables e below (T2.setTop (mkF m 11 #[.val (.ref c3)] [(.ref c2), (.ref c3)])) _
    refine Jvm.RoadKit.acmp (g := (mkF m 11 #[.val (.ref c3)] [(.ref c2), (.ref c3)])) X2 hx rfl rfl rfl (pc0 := 11) (pc' := 18) (same := false) rfl (hb hby own_d2_11) rfl (decide_eq_false fun q => ne_3_2 (Value.ref.inj q)) (by decide) (by decide) ?_
    show Steps p.tables e below (T2.setTop (mkF m 18 #[.val (.ref c3)] [])) _
    refine XS.iconst X2.here hx rfl (hb hby own_d2_18) ?_
    show Steps p.tables e below (T2.setTop (mkF m 19 #[.val (.ref c3)] [(.int (0 : Int32))])) _
    exact retN X2 hx (t := .boolean) Bd.returns (by simp) (hb hby own_d2_19) hr
  · show own_Q _ h0 n0 _ T2.heap _
    exact ⟨rfl, N0, e2⟩
set_option maxRecDepth 65536 in
set_option maxHeartbeats 40000000 in
theorem own_r3_3 (l : Launch) (Z : State) (a0 : Array Value) (hw : ∀ d ∈ tables_1, d.before a0 Z = true) (ws : List Jvm.Cond)  (c0 c1 c2 c3 c4 c5 c6 : Addr) (h0 : Heap) (n0 : Nat) (Z0 : n0 ≤ h0.size) (K : own_W Z h0 c0 c1 c2 c3 c4 c5 c6)  :
    MetFree l (⟨"com/example/wengao/wengao/mapping/AuditRole", "isStampedOnSave", "()Z"⟩ : MethodName) (head1 (Jvm.Cond.code (⟨"com/example/wengao/wengao/mapping/AuditRole", "isStampedOnSave", "()Z"⟩ : MethodName) prog_21_method_7_code 1 (some .boolean) :: ws) ({ frames := 1, cells := 0, slots := 0, locals := 12 } : Room)) (fun a U => a = #[(.ref c3)] ∧ Z.Warmed39 U.vm ∧ U.heap = h0) (fun _ _ _ _ _ => True) (fun _ U o U' => ∃ v L, o = .returned v ∧ own_Q (.int (1 : Int32)) h0 n0 v U'.heap L ∧ FrameEnd U o U' L ({ frames := 1, cells := 0, slots := 0, locals := 12 } : Room).cells ({ frames := 1, cells := 0, slots := 0, locals := 12 } : Room).slots) := by
  have K' := K
  obtain ⟨S0, E0, S1, E1, S2, E2, S3, E3, S4, E4, S5, E5, S6, E6, F0, F1, F2, F3, F4, F5, F6⟩ := K'
  have ne_3_0 : ¬ (c3 = c0) := (Fld.ne F3 F0 (fun q => absurd (Value.int.inj q) (by decide)))
  refine MetFree.of_bodySF (plainFor_of_name own_pn1) hisR ?_
  intro p e s m args below meth c s₁ Bd hml0 hP hK
  obtain ⟨rfl, hZ, hh⟩ := hP
  have hx := Bd.exec
  have hby := Bd.bytes
  have hml : c.maxLocals = 1 := hml0
  have hown : s.vm.findClass "com/example/wengao/wengao/mapping/AuditRole" = some m.cls := findClass_of_methodNamed Bd.named
  have X0 : Stand p l e ({ frames := 1, cells := 0, slots := 0, locals := 12 } : Room) s m #[(.ref c3)] below meth c s₁ [] 0 0 := Stand.of_body Bd
  have e0 : s₁.heap = h0 := by rw [← hh, Bd.state]; rfl
  have N0 := Fr.nil n0
  have pre0 : ∀ t, Steps p.tables e below (s₁.setTop (mkF m 0 #[.val (.ref c3)] [])) t → Steps p.tables e below (s₁.setTop (entryFrame m #[(.ref c3)] 1)) t := fun t k => castTop (own_ef3 m c3) k
  obtain ⟨T1, X1, e1, st1⟩ := getS2 X0 hx hZ hown (host := "") (Or.inl (hw _ (List.mem_of_getElem? (i := 22) rfl))) Via.refl e0 S0 (g := (mkF m 1 #[.val (.ref c3)] [(.ref c3)])) rfl (hb hby own_d3_1)
  obtain ⟨cq2, kq2, q2a, q2b, q2c⟩ := isOf hZ e1 E3
  obtain ⟨_, _, ⟨T2, L2, k2, n2⟩, -, X2, ⟨Lc2, hQ2, l2, y2, z2⟩, st2⟩ := X1.virtualBack hx (y := (⟨"com/example/wengao/wengao/mapping/AuditRole", "isStampedOnDelete", "()Z"⟩ : MethodName)) (z := (⟨"com/example/wengao/wengao/mapping/AuditRole", "isStampedOnDelete", "()Z"⟩ : MethodName)) hown (mvT hZ (hw _ (List.mem_of_getElem? (i := 25) rfl))) (mvT hZ (hw _ (List.mem_of_getElem? (i := 9) rfl))) (notFace_of_selects (args := #[]) (mvT hZ (hw _ (List.mem_of_getElem? (i := 11) rfl)))) (mvT hZ (hw _ (List.mem_of_getElem? (i := 11) rfl))) (mvT hZ (hw _ (List.mem_of_getElem? (i := 10) rfl))) (by decide) (backOf (W := 0) (own_r2_3 l Z a0 hw [] c0 c1 c2 c3 c4 c5 c6 h0 n0 Z0 K) hZ (hw _ (List.mem_of_getElem? (i := 12) rfl)) (hw _ (List.mem_of_getElem? (i := 6) rfl)) (by decide) (by decide)) q2a q2c (g := (mkF m 8 #[.val (.ref c3)] [(.ref c3)])) rfl (by rw [hml]; rfl) (Steps.refl _) (argsL := []) (rest := []) (lenOf own_pd1 rfl) rfl (by show 2 * 0 + _ ≤ _; exact Nat.le_of_eq rfl) (hb hby own_d3_8) (fun _ _ => ⟨rfl, e1, (by decide : 0 + 0 ≤ _), (by decide : 0 + 0 ≤ _)⟩)
  dsimp only [Pt.U, Pt.locs, Pt.cells, Pt.slots] at X2 l2 y2 z2 st2 hQ2
  subst l2 y2 z2
  obtain ⟨rfl, N2q, e2⟩ := hQ2
  have N2 := Fr.app N0 N2q
  obtain ⟨fs, hr, hrun, hended, hW, hsame⟩ := X2.leave (v := some (.int (1 : Int32))) (fun h => by rw [Bd.returns] at h; cases h)
  refine ⟨_, _, pre0 _ ?_, hrun, hended, _, _, rfl, ?_, ⟨_, rfl⟩, hW, hsame.mono (by decide) (by decide)⟩
  · show Steps p.tables e below (s₁.setTop (mkF m 0 #[.val (.ref c3)] [])) _
    refine XS.aloadN X0.here hx rfl (hb hby own_d3_0) rfl rfl ?_
    show Steps p.tables e below (s₁.setTop (mkF m 1 #[.val (.ref c3)] [(.ref c3)])) _
    refine st1 _ ?_
    show Steps p.tables e below (T1.setTop (mkF m 4 #[.val (.ref c3)] [(.ref c0), (.ref c3)])) _
    refine Jvm.RoadKit.acmp (g := (mkF m 4 #[.val (.ref c3)] [(.ref c0), (.ref c3)])) X1 hx rfl rfl rfl (pc0 := 4) (pc' := 7) (same := false) rfl (hb hby own_d3_4) rfl (decide_eq_false fun q => ne_3_0 (Value.ref.inj q)) (by decide) (by decide) ?_
    show Steps p.tables e below (T1.setTop (mkF m 7 #[.val (.ref c3)] [])) _
    refine XS.aloadN X1.here hx rfl (hb hby own_d3_7) rfl rfl ?_
    show Steps p.tables e below (T1.setTop (mkF m 8 #[.val (.ref c3)] [(.ref c3)])) _
    refine st2.trans ?_
    show Steps p.tables e below (T2.setTop (mkF m 11 #[.val (.ref c3)] [(.int (0 : Int32))])) _
    refine XS.ifNo X2.here hx rfl (hb hby own_d3_11) rfl ((if0 _ _).trans (teq (by decide : (0 : Int32) = (0 : Int32))).2) ?_
    show Steps p.tables e below (T2.setTop (mkF m 14 #[.val (.ref c3)] [])) _
    refine XS.iconst X2.here hx rfl (hb hby own_d3_14) ?_
    show Steps p.tables e below (T2.setTop (mkF m 15 #[.val (.ref c3)] [(.int (1 : Int32))])) _
    refine XS.goto X2.here hx rfl (pc0 := 15) (pc' := 19) rfl (hb hby own_d3_15) (by decide) (by decide) ?_
    show Steps p.tables e below (T2.setTop (mkF m 19 #[.val (.ref c3)] [(.int (1 : Int32))])) _
    exact retN X2 hx (t := .boolean) Bd.returns (by simp) (hb hby own_d3_19) hr
  · show own_Q _ h0 n0 _ T2.heap _
    exact ⟨rfl, N2, e2⟩
set_option maxRecDepth 65536 in
set_option maxHeartbeats 40000000 in
theorem own_r0_3 (l : Launch) (Z : State) (a0 : Array Value) (hw : ∀ d ∈ tables_1, d.before a0 Z = true) (ws : List Jvm.Cond) (p0 : Int32) (c0 c1 c2 c3 c4 c5 c6 : Addr) (h0 : Heap) (n0 : Nat) (Z0 : n0 ≤ h0.size) (K : own_W Z h0 c0 c1 c2 c3 c4 c5 c6) (hk0 : ((p0 &&& (2147483647 : Int32)) % (7 : Int32)) = (3 : Int32)) :
    MetFree l x (head1 (Jvm.Cond.code x code maxLocals ret :: ws) room_1) (fun a U => a = #[(.int p0)] ∧ Z.Warmed39 U.vm ∧ U.heap = h0) (fun _ _ _ _ _ => True) (fun _ U o U' => ∃ v L, o = .returned v ∧ own_Q (.int (1 : Int32)) h0 n0 v U'.heap L ∧ FrameEnd U o U' L room_1.cells room_1.slots) := by
  have K' := K
  obtain ⟨S0, E0, S1, E1, S2, E2, S3, E3, S4, E4, S5, E5, S6, E6, F0, F1, F2, F3, F4, F5, F6⟩ := K'
  refine MetFree.of_bodySF (plainFor_of_name own_pn0) hisR ?_
  intro p e s m args below meth c s₁ Bd hml0 hP hK
  obtain ⟨rfl, hZ, hh⟩ := hP
  have hx := Bd.exec
  have hby := Bd.bytes
  have hml : c.maxLocals = 8 := hml0
  have hown : s.vm.findClass "com/example/wengao/wengao/mapping/AuditRoleIsStampedOnDeletePinLaw" = some m.cls := findClass_of_methodNamed Bd.named
  have X0 : Stand p l e room_1 s m #[(.int p0)] below meth c s₁ [] 0 0 := Stand.of_body Bd
  have e0 : s₁.heap = h0 := by rw [← hh, Bd.state]; rfl
  have N0 := Fr.nil n0
  have pre0 : ∀ t, Steps p.tables e below (s₁.setTop (mkF m 0 #[.val (.int p0), .unset, .unset, .unset, .unset, .unset, .unset, .unset] [])) t → Steps p.tables e below (s₁.setTop (entryFrame m #[(.int p0)] maxLocals)) t := fun t k => castTop (own_ef0 m p0) k
  obtain ⟨_, _, ⟨T1, L1, k1, n1⟩, -, X1, ⟨Lc1, hQ1, l1, y1, z1⟩, st1⟩ := Jvm.LawKit.callS X0 hx (y := (⟨"com/example/wengao/wengao/mapping/AuditRoleIsStampedOnDeletePinLaw", "pick", "(I)Lcom/example/wengao/wengao/mapping/AuditRole;"⟩ : MethodName)) hown (mvT hZ (hw _ (List.mem_of_getElem? (i := 1) rfl))) (mvT hZ (hw _ (List.mem_of_getElem? (i := 2) rfl))) (mvT hZ (hw _ (List.mem_of_getElem? (i := 3) rfl))) (mvT hZ (hw _ (List.mem_of_getElem? (i := 4) rfl))) (by decide) (backOf (W := 0) (own_r1_3 l Z a0 hw [] c0 c1 c2 c3 c4 c5 c6 h0 n0 Z0 K) hZ (hw _ (List.mem_of_getElem? (i := 4) rfl)) (hw _ (List.mem_of_getElem? (i := 3) rfl)) (by decide) (by decide)) (g := (mkF m 9 #[.val (.int p0), .val (.int (3 : Int32)), .unset, .unset, .unset, .unset, .unset, .unset] [(.int (3 : Int32))])) rfl (by rw [hml]; rfl) (argsL := [(.int (3 : Int32))]) (rest := []) (lenOf own_pd0 rfl) rfl (by show 2 * 0 + _ ≤ _; exact Nat.le_of_eq rfl) (hb hby at_9) (fun _ _ => ⟨rfl, e0, (by decide : 0 + 0 ≤ _), (by decide : 0 + 0 ≤ _)⟩)
  dsimp only [Pt.U, Pt.locs, Pt.cells, Pt.slots] at X1 l1 y1 z1 st1 hQ1
  subst l1 y1 z1
  obtain ⟨rfl, N1q, e1⟩ := hQ1
  have N1 := Fr.app N0 N1q
  obtain ⟨cq2, kq2, q2a, q2b, q2c⟩ := isOf hZ e1 E3
  obtain ⟨_, _, ⟨T2, L2, k2, n2⟩, -, X2, ⟨Lc2, hQ2, l2, y2, z2⟩, st2⟩ := X1.virtualBack hx (y := (⟨"com/example/wengao/wengao/mapping/AuditRole", "isStampedOnDelete", "()Z"⟩ : MethodName)) (z := (⟨"com/example/wengao/wengao/mapping/AuditRole", "isStampedOnDelete", "()Z"⟩ : MethodName)) hown (mvT hZ (hw _ (List.mem_of_getElem? (i := 8) rfl))) (mvT hZ (hw _ (List.mem_of_getElem? (i := 9) rfl))) (notFace_of_selects (args := #[]) (mvT hZ (hw _ (List.mem_of_getElem? (i := 11) rfl)))) (mvT hZ (hw _ (List.mem_of_getElem? (i := 11) rfl))) (mvT hZ (hw _ (List.mem_of_getElem? (i := 10) rfl))) (by decide) (backOf (W := 0) (own_r2_3 l Z a0 hw [] c0 c1 c2 c3 c4 c5 c6 h0 n0 Z0 K) hZ (hw _ (List.mem_of_getElem? (i := 12) rfl)) (hw _ (List.mem_of_getElem? (i := 6) rfl)) (by decide) (by decide)) q2a q2c (g := (mkF m 31 #[.val (.int p0), .val (.int (3 : Int32)), .val (.ref c3), .val (.int (0 : Int32)), .unset, .unset, .unset, .unset] [(.ref c3)])) rfl (by rw [hml]; rfl) (Steps.refl _) (argsL := []) (rest := []) (lenOf own_pd1 rfl) rfl (by show 2 * 0 + _ ≤ _; exact Nat.le_of_eq rfl) (hb hby at_31) (fun _ _ => ⟨rfl, e1, (by decide : 0 + 0 ≤ _), (by decide : 0 + 0 ≤ _)⟩)
  dsimp only [Pt.U, Pt.locs, Pt.cells, Pt.slots] at X2 l2 y2 z2 st2 hQ2
  subst l2 y2 z2
  obtain ⟨rfl, N2q, e2⟩ := hQ2
  have N2 := Fr.app N1 N2q
  obtain ⟨cq3, kq3, q3a, q3b, q3c⟩ := isOf hZ e2 E3
  obtain ⟨_, _, ⟨T3, L3, k3, n3⟩, -, X3, ⟨Lc3, hQ3, l3, y3, z3⟩, st3⟩ := X2.virtualBack hx (y := (⟨"com/example/wengao/wengao/mapping/AuditRole", "isStampedOnSave", "()Z"⟩ : MethodName)) (z := (⟨"com/example/wengao/wengao/mapping/AuditRole", "isStampedOnSave", "()Z"⟩ : MethodName)) hown (mvT hZ (hw _ (List.mem_of_getElem? (i := 17) rfl))) (mvT hZ (hw _ (List.mem_of_getElem? (i := 18) rfl))) (notFace_of_selects (args := #[]) (mvT hZ (hw _ (List.mem_of_getElem? (i := 20) rfl)))) (mvT hZ (hw _ (List.mem_of_getElem? (i := 20) rfl))) (mvT hZ (hw _ (List.mem_of_getElem? (i := 19) rfl))) (by decide) (backOf (W := 0) (own_r3_3 l Z a0 hw [] c0 c1 c2 c3 c4 c5 c6 h0 n0 Z0 K) hZ (hw _ (List.mem_of_getElem? (i := 21) rfl)) (hw _ (List.mem_of_getElem? (i := 6) rfl)) (by decide) (by decide)) q3a q3c (g := (mkF m 56 #[.val (.int p0), .val (.int (3 : Int32)), .val (.ref c3), .val (.int (0 : Int32)), .val (.int (0 : Int32)), .val (.int (0 : Int32)), .unset, .unset] [(.ref c3)])) rfl (by rw [hml]; rfl) (Steps.refl _) (argsL := []) (rest := []) (lenOf own_pd1 rfl) rfl (by show 2 * 0 + _ ≤ _; exact Nat.le_of_eq rfl) (hb hby at_56) (fun _ _ => ⟨rfl, e2, (by decide : 0 + 0 ≤ _), (by decide : 0 + 0 ≤ _)⟩)
  dsimp only [Pt.U, Pt.locs, Pt.cells, Pt.slots] at X3 l3 y3 z3 st3 hQ3
  subst l3 y3 z3
  obtain ⟨rfl, N3q, e3⟩ := hQ3
  have N3 := Fr.app N2 N3q
  obtain ⟨fs, hr, hrun, hended, hW, hsame⟩ := X3.leave (v := some (.int (1 : Int32))) (fun h => by rw [Bd.returns] at h; cases h)
  refine ⟨_, _, pre0 _ ?_, hrun, hended, _, _, rfl, ?_, ⟨_, rfl⟩, hW, hsame.mono (by decide) (by decide)⟩
  · show Steps p.tables e below (s₁.setTop (mkF m 0 #[.val (.int p0), .unset, .unset, .unset, .unset, .unset, .unset, .unset] [])) _
    refine XS.iloadN X0.here hx rfl (hb hby at_0) rfl ?_
    show Steps p.tables e below (s₁.setTop (mkF m 1 #[.val (.int p0), .unset, .unset, .unset, .unset, .unset, .unset, .unset] [(.int p0)])) _
    refine X0.ldcInt hx hown (mvT hZ (hw _ (List.mem_of_getElem? (i := 0) rfl))) (g := (mkF m 1 #[.val (.int p0), .unset, .unset, .unset, .unset, .unset, .unset, .unset] [(.int p0)])) rfl (hb hby at_1) _ ?_
    show Steps p.tables e below (s₁.setTop (mkF m 3 #[.val (.int p0), .unset, .unset, .unset, .unset, .unset, .unset, .unset] [(.int (2147483647 : Int32)), (.int p0)])) _
    refine XS.iand X0.here hx rfl (hb hby at_3) rfl ?_
    show Steps p.tables e below (s₁.setTop (mkF m 4 #[.val (.int p0), .unset, .unset, .unset, .unset, .unset, .unset, .unset] [(.int (p0 &&& (2147483647 : Int32)))])) _
    refine XS.bipush X0.here hx rfl (hb hby at_4) ?_
    show Steps p.tables e below (s₁.setTop (mkF m 6 #[.val (.int p0), .unset, .unset, .unset, .unset, .unset, .unset, .unset] [(.int (7 : Int32)), (.int (p0 &&& (2147483647 : Int32)))])) _
    refine iremM X0 hx rfl (hb hby at_6) rfl (by decide) ?_
    show Steps p.tables e below (s₁.setTop (mkF m 7 #[.val (.int p0), .unset, .unset, .unset, .unset, .unset, .unset, .unset] [(.int ((p0 &&& (2147483647 : Int32)) % (7 : Int32)))])) _
    rw [hk0]
    show Steps p.tables e below (s₁.setTop (mkF m 7 #[.val (.int p0), .unset, .unset, .unset, .unset, .unset, .unset, .unset] [(.int (3 : Int32))])) _
    refine XS.istoreN X0.here hx rfl (hb hby at_7) rfl (l' := #[.val (.int p0), .val (.int (3 : Int32)), .unset, .unset, .unset, .unset, .unset, .unset]) rfl ?_
    show Steps p.tables e below (s₁.setTop (mkF m 8 #[.val (.int p0), .val (.int (3 : Int32)), .unset, .unset, .unset, .unset, .unset, .unset] [])) _
    refine XS.iloadN X0.here hx rfl (hb hby at_8) rfl ?_
    show Steps p.tables e below (s₁.setTop (mkF m 9 #[.val (.int p0), .val (.int (3 : Int32)), .unset, .unset, .unset, .unset, .unset, .unset] [(.int (3 : Int32))])) _
    refine st1 _ ?_
    show Steps p.tables e below (T1.setTop (mkF m 12 #[.val (.int p0), .val (.int (3 : Int32)), .unset, .unset, .unset, .unset, .unset, .unset] [(.ref c3)])) _
    refine XS.astoreN X1.here hx rfl (hb hby at_12) rfl rfl (l' := #[.val (.int p0), .val (.int (3 : Int32)), .val (.ref c3), .unset, .unset, .unset, .unset, .unset]) rfl ?_
    show Steps p.tables e below (T1.setTop (mkF m 13 #[.val (.int p0), .val (.int (3 : Int32)), .val (.ref c3), .unset, .unset, .unset, .unset, .unset] [])) _
    refine XS.iloadN X1.here hx rfl (hb hby at_13) rfl ?_
    show Steps p.tables e below (T1.setTop (mkF m 14 #[.val (.int p0), .val (.int (3 : Int32)), .val (.ref c3), .unset, .unset, .unset, .unset, .unset] [(.int (3 : Int32))])) _
    refine XS.iconst X1.here hx rfl (hb hby at_14) ?_
    show Steps p.tables e below (T1.setTop (mkF m 15 #[.val (.int p0), .val (.int (3 : Int32)), .val (.ref c3), .unset, .unset, .unset, .unset, .unset] [(.int (5 : Int32)), (.int (3 : Int32))])) _
    refine XS.icmpNo X1.here hx rfl (hb hby at_15) rfl (feq (by decide : ¬ ((3 : Int32) = (5 : Int32)))).1 ?_
    show Steps p.tables e below (T1.setTop (mkF m 18 #[.val (.int p0), .val (.int (3 : Int32)), .val (.ref c3), .unset, .unset, .unset, .unset, .unset] [])) _
    refine XS.iloadN X1.here hx rfl (hb hby at_18) rfl ?_
    show Steps p.tables e below (T1.setTop (mkF m 19 #[.val (.int p0), .val (.int (3 : Int32)), .val (.ref c3), .unset, .unset, .unset, .unset, .unset] [(.int (3 : Int32))])) _
    refine XS.bipush X1.here hx rfl (hb hby at_19) ?_
    show Steps p.tables e below (T1.setTop (mkF m 21 #[.val (.int p0), .val (.int (3 : Int32)), .val (.ref c3), .unset, .unset, .unset, .unset, .unset] [(.int (6 : Int32)), (.int (3 : Int32))])) _
    refine XS.icmpYes X1.here hx rfl (pc0 := 21) (pc' := 28) rfl (hb hby at_21) rfl (feq (by decide : ¬ ((3 : Int32) = (6 : Int32)))).2 (by decide) (by decide) ?_
    show Steps p.tables e below (T1.setTop (mkF m 28 #[.val (.int p0), .val (.int (3 : Int32)), .val (.ref c3), .unset, .unset, .unset, .unset, .unset] [])) _
    refine XS.iconst X1.here hx rfl (hb hby at_28) ?_
    show Steps p.tables e below (T1.setTop (mkF m 29 #[.val (.int p0), .val (.int (3 : Int32)), .val (.ref c3), .unset, .unset, .unset, .unset, .unset] [(.int (0 : Int32))])) _
    refine XS.istoreN X1.here hx rfl (hb hby at_29) rfl (l' := #[.val (.int p0), .val (.int (3 : Int32)), .val (.ref c3), .val (.int (0 : Int32)), .unset, .unset, .unset, .unset]) rfl ?_
    show Steps p.tables e below (T1.setTop (mkF m 30 #[.val (.int p0), .val (.int (3 : Int32)), .val (.ref c3), .val (.int (0 : Int32)), .unset, .unset, .unset, .unset] [])) _
    refine XS.aloadN X1.here hx rfl (hb hby at_30) rfl rfl ?_
    show Steps p.tables e below (T1.setTop (mkF m 31 #[.val (.int p0), .val (.int (3 : Int32)), .val (.ref c3), .val (.int (0 : Int32)), .unset, .unset, .unset, .unset] [(.ref c3)])) _
    refine st2.trans ?_
    show Steps p.tables e below (T2.setTop (mkF m 34 #[.val (.int p0), .val (.int (3 : Int32)), .val (.ref c3), .val (.int (0 : Int32)), .unset, .unset, .unset, .unset] [(.int (0 : Int32))])) _
    refine XS.istore X2.here hx rfl (hb hby at_34) rfl (l' := #[.val (.int p0), .val (.int (3 : Int32)), .val (.ref c3), .val (.int (0 : Int32)), .val (.int (0 : Int32)), .unset, .unset, .unset]) rfl ?_
    show Steps p.tables e below (T2.setTop (mkF m 36 #[.val (.int p0), .val (.int (3 : Int32)), .val (.ref c3), .val (.int (0 : Int32)), .val (.int (0 : Int32)), .unset, .unset, .unset] [])) _
    refine XS.iload X2.here hx rfl (hb hby at_36) rfl ?_
    show Steps p.tables e below (T2.setTop (mkF m 38 #[.val (.int p0), .val (.int (3 : Int32)), .val (.ref c3), .val (.int (0 : Int32)), .val (.int (0 : Int32)), .unset, .unset, .unset] [(.int (0 : Int32))])) _
    refine XS.iloadN X2.here hx rfl (hb hby at_38) rfl ?_
    show Steps p.tables e below (T2.setTop (mkF m 39 #[.val (.int p0), .val (.int (3 : Int32)), .val (.ref c3), .val (.int (0 : Int32)), .val (.int (0 : Int32)), .unset, .unset, .unset] [(.int (0 : Int32)), (.int (0 : Int32))])) _
    refine XS.icmpYes X2.here hx rfl (pc0 := 39) (pc' := 44) rfl (hb hby at_39) rfl (teq (by decide : (0 : Int32) = (0 : Int32))).1 (by decide) (by decide) ?_
    show Steps p.tables e below (T2.setTop (mkF m 44 #[.val (.int p0), .val (.int (3 : Int32)), .val (.ref c3), .val (.int (0 : Int32)), .val (.int (0 : Int32)), .unset, .unset, .unset] [])) _
    refine XS.iloadN X2.here hx rfl (hb hby at_44) rfl ?_
    show Steps p.tables e below (T2.setTop (mkF m 45 #[.val (.int p0), .val (.int (3 : Int32)), .val (.ref c3), .val (.int (0 : Int32)), .val (.int (0 : Int32)), .unset, .unset, .unset] [(.int (3 : Int32))])) _
    refine XS.ifYes X2.here hx rfl (pc0 := 45) (pc' := 52) rfl (hb hby at_45) rfl ((if0 _ _).trans (feq (by decide : ¬ ((3 : Int32) = (0 : Int32)))).2) (by decide) (by decide) ?_
    show Steps p.tables e below (T2.setTop (mkF m 52 #[.val (.int p0), .val (.int (3 : Int32)), .val (.ref c3), .val (.int (0 : Int32)), .val (.int (0 : Int32)), .unset, .unset, .unset] [])) _
    refine XS.iconst X2.here hx rfl (hb hby at_52) ?_
    show Steps p.tables e below (T2.setTop (mkF m 53 #[.val (.int p0), .val (.int (3 : Int32)), .val (.ref c3), .val (.int (0 : Int32)), .val (.int (0 : Int32)), .unset, .unset, .unset] [(.int (0 : Int32))])) _
    refine XS.istore X2.here hx rfl (hb hby at_53) rfl (l' := #[.val (.int p0), .val (.int (3 : Int32)), .val (.ref c3), .val (.int (0 : Int32)), .val (.int (0 : Int32)), .val (.int (0 : Int32)), .unset, .unset]) rfl ?_
    show Steps p.tables e below (T2.setTop (mkF m 55 #[.val (.int p0), .val (.int (3 : Int32)), .val (.ref c3), .val (.int (0 : Int32)), .val (.int (0 : Int32)), .val (.int (0 : Int32)), .unset, .unset] [])) _
    refine XS.aloadN X2.here hx rfl (hb hby at_55) rfl rfl ?_
    show Steps p.tables e below (T2.setTop (mkF m 56 #[.val (.int p0), .val (.int (3 : Int32)), .val (.ref c3), .val (.int (0 : Int32)), .val (.int (0 : Int32)), .val (.int (0 : Int32)), .unset, .unset] [(.ref c3)])) _
    refine st3.trans ?_
    show Steps p.tables e below (T3.setTop (mkF m 59 #[.val (.int p0), .val (.int (3 : Int32)), .val (.ref c3), .val (.int (0 : Int32)), .val (.int (0 : Int32)), .val (.int (0 : Int32)), .unset, .unset] [(.int (1 : Int32))])) _
    refine XS.istore X3.here hx rfl (hb hby at_59) rfl (l' := #[.val (.int p0), .val (.int (3 : Int32)), .val (.ref c3), .val (.int (0 : Int32)), .val (.int (0 : Int32)), .val (.int (0 : Int32)), .val (.int (1 : Int32)), .unset]) rfl ?_
    show Steps p.tables e below (T3.setTop (mkF m 61 #[.val (.int p0), .val (.int (3 : Int32)), .val (.ref c3), .val (.int (0 : Int32)), .val (.int (0 : Int32)), .val (.int (0 : Int32)), .val (.int (1 : Int32)), .unset] [])) _
    refine XS.iload X3.here hx rfl (hb hby at_61) rfl ?_
    show Steps p.tables e below (T3.setTop (mkF m 63 #[.val (.int p0), .val (.int (3 : Int32)), .val (.ref c3), .val (.int (0 : Int32)), .val (.int (0 : Int32)), .val (.int (0 : Int32)), .val (.int (1 : Int32)), .unset] [(.int (0 : Int32))])) _
    refine XS.ifYes X3.here hx rfl (pc0 := 63) (pc' := 70) rfl (hb hby at_63) rfl ((if0 _ _).trans (teq (by decide : (0 : Int32) = (0 : Int32))).1) (by decide) (by decide) ?_
    show Steps p.tables e below (T3.setTop (mkF m 70 #[.val (.int p0), .val (.int (3 : Int32)), .val (.ref c3), .val (.int (0 : Int32)), .val (.int (0 : Int32)), .val (.int (0 : Int32)), .val (.int (1 : Int32)), .unset] [])) _
    refine XS.iconst X3.here hx rfl (hb hby at_70) ?_
    show Steps p.tables e below (T3.setTop (mkF m 71 #[.val (.int p0), .val (.int (3 : Int32)), .val (.ref c3), .val (.int (0 : Int32)), .val (.int (0 : Int32)), .val (.int (0 : Int32)), .val (.int (1 : Int32)), .unset] [(.int (0 : Int32))])) _
    refine XS.iload X3.here hx rfl (hb hby at_71) rfl ?_
    show Steps p.tables e below (T3.setTop (mkF m 73 #[.val (.int p0), .val (.int (3 : Int32)), .val (.ref c3), .val (.int (0 : Int32)), .val (.int (0 : Int32)), .val (.int (0 : Int32)), .val (.int (1 : Int32)), .unset] [(.int (1 : Int32)), (.int (0 : Int32))])) _
    refine XS.ifNo X3.here hx rfl (hb hby at_73) rfl ((if0 _ _).trans (feq (by decide : ¬ ((1 : Int32) = (0 : Int32)))).1) ?_
    show Steps p.tables e below (T3.setTop (mkF m 76 #[.val (.int p0), .val (.int (3 : Int32)), .val (.ref c3), .val (.int (0 : Int32)), .val (.int (0 : Int32)), .val (.int (0 : Int32)), .val (.int (1 : Int32)), .unset] [(.int (0 : Int32))])) _
    refine XS.iconst X3.here hx rfl (hb hby at_76) ?_
    show Steps p.tables e below (T3.setTop (mkF m 77 #[.val (.int p0), .val (.int (3 : Int32)), .val (.ref c3), .val (.int (0 : Int32)), .val (.int (0 : Int32)), .val (.int (0 : Int32)), .val (.int (1 : Int32)), .unset] [(.int (1 : Int32)), (.int (0 : Int32))])) _
    refine XS.goto X3.here hx rfl (pc0 := 77) (pc' := 81) rfl (hb hby at_77) (by decide) (by decide) ?_
    show Steps p.tables e below (T3.setTop (mkF m 81 #[.val (.int p0), .val (.int (3 : Int32)), .val (.ref c3), .val (.int (0 : Int32)), .val (.int (0 : Int32)), .val (.int (0 : Int32)), .val (.int (1 : Int32)), .unset] [(.int (1 : Int32)), (.int (0 : Int32))])) _
    refine XS.iadd X3.here hx rfl (hb hby at_81) rfl ?_
    show Steps p.tables e below (T3.setTop (mkF m 82 #[.val (.int p0), .val (.int (3 : Int32)), .val (.ref c3), .val (.int (0 : Int32)), .val (.int (0 : Int32)), .val (.int (0 : Int32)), .val (.int (1 : Int32)), .unset] [(.int ((0 : Int32) + (1 : Int32)))])) _
    refine XS.iload X3.here hx rfl (hb hby at_82) rfl ?_
    show Steps p.tables e below (T3.setTop (mkF m 84 #[.val (.int p0), .val (.int (3 : Int32)), .val (.ref c3), .val (.int (0 : Int32)), .val (.int (0 : Int32)), .val (.int (0 : Int32)), .val (.int (1 : Int32)), .unset] [(.int (0 : Int32)), (.int ((0 : Int32) + (1 : Int32)))])) _
    refine XS.ifYes X3.here hx rfl (pc0 := 84) (pc' := 91) rfl (hb hby at_84) rfl ((if0 _ _).trans (teq (by decide : (0 : Int32) = (0 : Int32))).1) (by decide) (by decide) ?_
    show Steps p.tables e below (T3.setTop (mkF m 91 #[.val (.int p0), .val (.int (3 : Int32)), .val (.ref c3), .val (.int (0 : Int32)), .val (.int (0 : Int32)), .val (.int (0 : Int32)), .val (.int (1 : Int32)), .unset] [(.int ((0 : Int32) + (1 : Int32)))])) _
    refine XS.iconst X3.here hx rfl (hb hby at_91) ?_
    show Steps p.tables e below (T3.setTop (mkF m 92 #[.val (.int p0), .val (.int (3 : Int32)), .val (.ref c3), .val (.int (0 : Int32)), .val (.int (0 : Int32)), .val (.int (0 : Int32)), .val (.int (1 : Int32)), .unset] [(.int (0 : Int32)), (.int ((0 : Int32) + (1 : Int32)))])) _
    refine XS.iadd X3.here hx rfl (hb hby at_92) rfl ?_
    show Steps p.tables e below (T3.setTop (mkF m 93 #[.val (.int p0), .val (.int (3 : Int32)), .val (.ref c3), .val (.int (0 : Int32)), .val (.int (0 : Int32)), .val (.int (0 : Int32)), .val (.int (1 : Int32)), .unset] [(.int (((0 : Int32) + (1 : Int32)) + (0 : Int32)))])) _
    refine XS.istore X3.here hx rfl (hb hby at_93) rfl (l' := #[.val (.int p0), .val (.int (3 : Int32)), .val (.ref c3), .val (.int (0 : Int32)), .val (.int (0 : Int32)), .val (.int (0 : Int32)), .val (.int (1 : Int32)), .val (.int (((0 : Int32) + (1 : Int32)) + (0 : Int32)))]) rfl ?_
    show Steps p.tables e below (T3.setTop (mkF m 95 #[.val (.int p0), .val (.int (3 : Int32)), .val (.ref c3), .val (.int (0 : Int32)), .val (.int (0 : Int32)), .val (.int (0 : Int32)), .val (.int (1 : Int32)), .val (.int (((0 : Int32) + (1 : Int32)) + (0 : Int32)))] [])) _
    refine XS.iload X3.here hx rfl (hb hby at_95) rfl ?_
    show Steps p.tables e below (T3.setTop (mkF m 97 #[.val (.int p0), .val (.int (3 : Int32)), .val (.ref c3), .val (.int (0 : Int32)), .val (.int (0 : Int32)), .val (.int (0 : Int32)), .val (.int (1 : Int32)), .val (.int (((0 : Int32) + (1 : Int32)) + (0 : Int32)))] [(.int (((0 : Int32) + (1 : Int32)) + (0 : Int32)))])) _
    refine XS.iconst X3.here hx rfl (hb hby at_97) ?_
    show Steps p.tables e below (T3.setTop (mkF m 98 #[.val (.int p0), .val (.int (3 : Int32)), .val (.ref c3), .val (.int (0 : Int32)), .val (.int (0 : Int32)), .val (.int (0 : Int32)), .val (.int (1 : Int32)), .val (.int (((0 : Int32) + (1 : Int32)) + (0 : Int32)))] [(.int (1 : Int32)), (.int (((0 : Int32) + (1 : Int32)) + (0 : Int32)))])) _
    refine XS.icmpNo X3.here hx rfl (hb hby at_98) rfl (teq (by decide : (((0 : Int32) + (1 : Int32)) + (0 : Int32)) = (1 : Int32))).2 ?_
    show Steps p.tables e below (T3.setTop (mkF m 101 #[.val (.int p0), .val (.int (3 : Int32)), .val (.ref c3), .val (.int (0 : Int32)), .val (.int (0 : Int32)), .val (.int (0 : Int32)), .val (.int (1 : Int32)), .val (.int (((0 : Int32) + (1 : Int32)) + (0 : Int32)))] [])) _
    refine XS.iconst X3.here hx rfl (hb hby at_101) ?_
    show Steps p.tables e below (T3.setTop (mkF m 102 #[.val (.int p0), .val (.int (3 : Int32)), .val (.ref c3), .val (.int (0 : Int32)), .val (.int (0 : Int32)), .val (.int (0 : Int32)), .val (.int (1 : Int32)), .val (.int (((0 : Int32) + (1 : Int32)) + (0 : Int32)))] [(.int (1 : Int32))])) _
    refine XS.goto X3.here hx rfl (pc0 := 102) (pc' := 106) rfl (hb hby at_102) (by decide) (by decide) ?_
    show Steps p.tables e below (T3.setTop (mkF m 106 #[.val (.int p0), .val (.int (3 : Int32)), .val (.ref c3), .val (.int (0 : Int32)), .val (.int (0 : Int32)), .val (.int (0 : Int32)), .val (.int (1 : Int32)), .val (.int (((0 : Int32) + (1 : Int32)) + (0 : Int32)))] [(.int (1 : Int32))])) _
    exact retN X3 hx (t := .boolean) Bd.returns (by simp) (hb hby at_106) hr
  · show own_Q _ h0 n0 _ T3.heap _
    exact ⟨rfl, N3, e3⟩
theorem own_d1_35 : decode method_3_code 35 = .ok (.iload_n 0, 1) := by decide +kernel
theorem own_d1_36 : decode method_3_code 36 = .ok (.iconst 4, 1) := by decide +kernel
theorem own_d1_37 : decode method_3_code 37 = .ok (.if_icmp .ne 7, 3) := by decide +kernel
theorem own_d1_40 : decode method_3_code 40 = .ok (.getstatic 36, 3) := by decide +kernel
theorem own_d1_43 : decode method_3_code 43 = .ok (.areturn, 1) := by decide +kernel
set_option maxRecDepth 65536 in
set_option maxHeartbeats 40000000 in
theorem own_r1_4 (l : Launch) (Z : State) (a0 : Array Value) (hw : ∀ d ∈ tables_1, d.before a0 Z = true) (ws : List Jvm.Cond)  (c0 c1 c2 c3 c4 c5 c6 : Addr) (h0 : Heap) (n0 : Nat) (Z0 : n0 ≤ h0.size) (K : own_W Z h0 c0 c1 c2 c3 c4 c5 c6)  :
    MetFree l (⟨"com/example/wengao/wengao/mapping/AuditRoleIsStampedOnDeletePinLaw", "pick", "(I)Lcom/example/wengao/wengao/mapping/AuditRole;"⟩ : MethodName) (head1 (Jvm.Cond.code (⟨"com/example/wengao/wengao/mapping/AuditRoleIsStampedOnDeletePinLaw", "pick", "(I)Lcom/example/wengao/wengao/mapping/AuditRole;"⟩ : MethodName) method_3_code 1 (some (.object "com/example/wengao/wengao/mapping/AuditRole")) :: ws) ({ frames := 0, cells := 0, slots := 0, locals := 0 } : Room)) (fun a U => a = #[(.int (4 : Int32))] ∧ Z.Warmed39 U.vm ∧ U.heap = h0) (fun _ _ _ _ _ => True) (fun _ U o U' => ∃ v L, o = .returned v ∧ own_Q (.ref c4) h0 n0 v U'.heap L ∧ FrameEnd U o U' L ({ frames := 0, cells := 0, slots := 0, locals := 0 } : Room).cells ({ frames := 0, cells := 0, slots := 0, locals := 0 } : Room).slots) := by
  have K' := K
  obtain ⟨S0, E0, S1, E1, S2, E2, S3, E3, S4, E4, S5, E5, S6, E6, F0, F1, F2, F3, F4, F5, F6⟩ := K'
  refine MetFree.of_bodySF (plainFor_of_name own_pn0) hisR ?_
  intro p e s m args below meth c s₁ Bd hml0 hP hK
  obtain ⟨rfl, hZ, hh⟩ := hP
  have hx := Bd.exec
  have hby := Bd.bytes
  have hml : c.maxLocals = 1 := hml0
  have hown : s.vm.findClass "com/example/wengao/wengao/mapping/AuditRoleIsStampedOnDeletePinLaw" = some m.cls := findClass_of_methodNamed Bd.named
  have X0 : Stand p l e ({ frames := 0, cells := 0, slots := 0, locals := 0 } : Room) s m #[(.int (4 : Int32))] below meth c s₁ [] 0 0 := Stand.of_body Bd
  have e0 : s₁.heap = h0 := by rw [← hh, Bd.state]; rfl
  have N0 := Fr.nil n0
  have pre0 : ∀ t, Steps p.tables e below (s₁.setTop (mkF m 0 #[.val (.int (4 : Int32))] [])) t → Steps p.tables e below (s₁.setTop (entryFrame m #[(.int (4 : Int32))] 1)) t := fun t k => castTop (own_ef1 m (4 : Int32)) k
  obtain ⟨T1, X1, e1, st1⟩ := getS2 X0 hx hZ hown (host := "") (Or.inl (hw _ (List.mem_of_getElem? (i := 28) rfl))) Via.refl e0 S4 (g := (mkF m 40 #[.val (.int (4 : Int32))] [])) rfl (hb hby own_d1_40)
  obtain ⟨fs, hr, hrun, hended, hW, hsame⟩ := X1.leave (v := some (.ref c4)) (fun h => by rw [Bd.returns] at h; cases h)
  refine ⟨_, _, pre0 _ ?_, hrun, hended, _, _, rfl, ?_, ⟨_, rfl⟩, hW, hsame.mono (by decide) (by decide)⟩
  · show Steps p.tables e below (s₁.setTop (mkF m 0 #[.val (.int (4 : Int32))] [])) _
    refine XS.iloadN X0.here hx rfl (hb hby own_d1_0) rfl ?_
    show Steps p.tables e below (s₁.setTop (mkF m 1 #[.val (.int (4 : Int32))] [(.int (4 : Int32))])) _
    refine XS.ifYes X0.here hx rfl (pc0 := 1) (pc' := 8) rfl (hb hby own_d1_1) rfl ((if0 _ _).trans (feq (by decide : ¬ ((4 : Int32) = (0 : Int32)))).2) (by decide) (by decide) ?_
    show Steps p.tables e below (s₁.setTop (mkF m 8 #[.val (.int (4 : Int32))] [])) _
    refine XS.iloadN X0.here hx rfl (hb hby own_d1_8) rfl ?_
    show Steps p.tables e below (s₁.setTop (mkF m 9 #[.val (.int (4 : Int32))] [(.int (4 : Int32))])) _
    refine XS.iconst X0.here hx rfl (hb hby own_d1_9) ?_
    show Steps p.tables e below (s₁.setTop (mkF m 10 #[.val (.int (4 : Int32))] [(.int (1 : Int32)), (.int (4 : Int32))])) _
    refine XS.icmpYes X0.here hx rfl (pc0 := 10) (pc' := 17) rfl (hb hby own_d1_10) rfl (feq (by decide : ¬ ((4 : Int32) = (1 : Int32)))).2 (by decide) (by decide) ?_
    show Steps p.tables e below (s₁.setTop (mkF m 17 #[.val (.int (4 : Int32))] [])) _
    refine XS.iloadN X0.here hx rfl (hb hby own_d1_17) rfl ?_
    show Steps p.tables e below (s₁.setTop (mkF m 18 #[.val (.int (4 : Int32))] [(.int (4 : Int32))])) _
    refine XS.iconst X0.here hx rfl (hb hby own_d1_18) ?_
    show Steps p.tables e below (s₁.setTop (mkF m 19 #[.val (.int (4 : Int32))] [(.int (2 : Int32)), (.int (4 : Int32))])) _
    refine XS.icmpYes X0.here hx rfl (pc0 := 19) (pc' := 26) rfl (hb hby own_d1_19) rfl (feq (by decide : ¬ ((4 : Int32) = (2 : Int32)))).2 (by decide) (by decide) ?_
    show Steps p.tables e below (s₁.setTop (mkF m 26 #[.val (.int (4 : Int32))] [])) _
    refine XS.iloadN X0.here hx rfl (hb hby own_d1_26) rfl ?_
    show Steps p.tables e below (s₁.setTop (mkF m 27 #[.val (.int (4 : Int32))] [(.int (4 : Int32))])) _
    refine XS.iconst X0.here hx rfl (hb hby own_d1_27) ?_
    show Steps p.tables e below (s₁.setTop (mkF m 28 #[.val (.int (4 : Int32))] [(.int (3 : Int32)), (.int (4 : Int32))])) _
    refine XS.icmpYes X0.here hx rfl (pc0 := 28) (pc' := 35) rfl (hb hby own_d1_28) rfl (feq (by decide : ¬ ((4 : Int32) = (3 : Int32)))).2 (by decide) (by decide) ?_
    show Steps p.tables e below (s₁.setTop (mkF m 35 #[.val (.int (4 : Int32))] [])) _
    refine XS.iloadN X0.here hx rfl (hb hby own_d1_35) rfl ?_
    show Steps p.tables e below (s₁.setTop (mkF m 36 #[.val (.int (4 : Int32))] [(.int (4 : Int32))])) _
    refine XS.iconst X0.here hx rfl (hb hby own_d1_36) ?_
    show Steps p.tables e below (s₁.setTop (mkF m 37 #[.val (.int (4 : Int32))] [(.int (4 : Int32)), (.int (4 : Int32))])) _
    refine XS.icmpNo X0.here hx rfl (hb hby own_d1_37) rfl (teq (by decide : (4 : Int32) = (4 : Int32))).2 ?_
    show Steps p.tables e below (s₁.setTop (mkF m 40 #[.val (.int (4 : Int32))] [])) _
    refine st1 _ ?_
    show Steps p.tables e below (T1.setTop (mkF m 43 #[.val (.int (4 : Int32))] [(.ref c4)])) _
    jvm_step X1.here [X1.here.top, hx, (hb hby own_d1_43), X1.method', Bd.returns, Value.isRef, FieldType.isReference]
    first | (intro acts; rw [hr _ acts rfl rfl rfl]) | rw [hr _ _ rfl rfl rfl]
    exact Steps.refl _
  · show own_Q _ h0 n0 _ T1.heap _
    exact ⟨rfl, N0, e1⟩
set_option maxRecDepth 65536 in
set_option maxHeartbeats 40000000 in
theorem own_r2_4 (l : Launch) (Z : State) (a0 : Array Value) (hw : ∀ d ∈ tables_1, d.before a0 Z = true) (ws : List Jvm.Cond)  (c0 c1 c2 c3 c4 c5 c6 : Addr) (h0 : Heap) (n0 : Nat) (Z0 : n0 ≤ h0.size) (K : own_W Z h0 c0 c1 c2 c3 c4 c5 c6)  :
    MetFree l (⟨"com/example/wengao/wengao/mapping/AuditRole", "isStampedOnDelete", "()Z"⟩ : MethodName) (head1 (Jvm.Cond.code (⟨"com/example/wengao/wengao/mapping/AuditRole", "isStampedOnDelete", "()Z"⟩ : MethodName) prog_21_method_9_code 1 (some .boolean) :: ws) ({ frames := 0, cells := 0, slots := 0, locals := 0 } : Room)) (fun a U => a = #[(.ref c4)] ∧ Z.Warmed39 U.vm ∧ U.heap = h0) (fun _ _ _ _ _ => True) (fun _ U o U' => ∃ v L, o = .returned v ∧ own_Q (.int (0 : Int32)) h0 n0 v U'.heap L ∧ FrameEnd U o U' L ({ frames := 0, cells := 0, slots := 0, locals := 0 } : Room).cells ({ frames := 0, cells := 0, slots := 0, locals := 0 } : Room).slots) := by
  have K' := K
  obtain ⟨S0, E0, S1, E1, S2, E2, S3, E3, S4, E4, S5, E5, S6, E6, F0, F1, F2, F3, F4, F5, F6⟩ := K'
  have ne_4_1 : ¬ (c4 = c1) := (Fld.ne F4 F1 (fun q => absurd (Value.int.inj q) (by decide)))
  have ne_4_2 : ¬ (c4 = c2) := (Fld.ne F4 F2 (fun q => absurd (Value.int.inj q) (by decide)))
  refine MetFree.of_bodySF (plainFor_of_name own_pn1) hisR ?_
  intro p e s m args below meth c s₁ Bd hml0 hP hK
  obtain ⟨rfl, hZ, hh⟩ := hP
  have hx := Bd.exec
  have hby := Bd.bytes
  have hml : c.maxLocals = 1 := hml0
  have hown : s.vm.findClass "com/example/wengao/wengao/mapping/AuditRole" = some m.cls := findClass_of_methodNamed Bd.named
  have X0 : Stand p l e ({ frames := 0, cells := 0, slots := 0, locals := 0 } : Room) s m #[(.ref c4)] below meth c s₁ [] 0 0 := Stand.of_body Bd
  have e0 : s₁.heap = h0 := by rw [← hh, Bd.state]; rfl
  have N0 := Fr.nil n0
  have pre0 : ∀ t, Steps p.tables e below (s₁.setTop (mkF m 0 #[.val (.ref c4)] [])) t → Steps p.tables e below (s₁.setTop (entryFrame m #[(.ref c4)] 1)) t := fun t k => castTop (own_ef2 m c4) k
  obtain ⟨T1, X1, e1, st1⟩ := getS2 X0 hx hZ hown (host := "") (Or.inl (hw _ (List.mem_of_getElem? (i := 13) rfl))) Via.refl e0 S1 (g := (mkF m 1 #[.val (.ref c4)] [(.ref c4)])) rfl (hb hby own_d2_1)
  obtain ⟨T2, X2, e2, st2⟩ := getS2 X1 hx hZ hown (host := "") (Or.inl (hw _ (List.mem_of_getElem? (i := 15) rfl))) Via.refl e1 S2 (g := (mkF m 8 #[.val (.ref c4)] [(.ref c4)])) rfl (hb hby own_d2_8)
  obtain ⟨fs, hr, hrun, hended, hW, hsame⟩ := X2.leave (v := some (.int (0 : Int32))) (fun h => by rw [Bd.returns] at h; cases h)
  refine ⟨_, _, pre0 _ ?_, hrun, hended, _, _, rfl, ?_, ⟨_, rfl⟩, hW, hsame.mono (by decide) (by decide)⟩
  · show Steps p.tables e below (s₁.setTop (mkF m 0 #[.val (.ref c4)] [])) _
    refine XS.aloadN X0.here hx rfl (hb hby own_d2_0) rfl rfl ?_
    show Steps p.tables e below (s₁.setTop (mkF m 1 #[.val (.ref c4)] [(.ref c4)])) _
    refine st1 _ ?_
    show Steps p.tables e below (T1.setTop (mkF m 4 #[.val (.ref c4)] [(.ref c1), (.ref c4)])) _
    refine Jvm.RoadKit.acmp (g := (mkF m 4 #[.val (.ref c4)] [(.ref c1), (.ref c4)])) X1 hx rfl rfl rfl (pc0 := 4) (pc' := 7) (same := false) rfl (hb hby own_d2_4) rfl (decide_eq_false fun q => ne_4_1 (Value.ref.inj q)) (by decide) (by decide) ?_
    show Steps p.tables e below (T1.setTop (mkF m 7 #[.val (.ref c4)] [])) _
    refine XS.aloadN X1.here hx rfl (hb hby own_d2_7) rfl rfl ?_
    show Steps p.tables e below (T1.setTop (mkF m 8 #[.val (.ref c4)] [(.ref c4)])) _
    refine st2 _ ?_
    show Steps p.tables e below (T2.setTop (mkF m 11 #[.val (.ref c4)] [(.ref c2), (.ref c4)])) _
    refine Jvm.RoadKit.acmp (g := (mkF m 11 #[.val (.ref c4)] [(.ref c2), (.ref c4)])) X2 hx rfl rfl rfl (pc0 := 11) (pc' := 18) (same := false) rfl (hb hby own_d2_11) rfl (decide_eq_false fun q => ne_4_2 (Value.ref.inj q)) (by decide) (by decide) ?_
    show Steps p.tables e below (T2.setTop (mkF m 18 #[.val (.ref c4)] [])) _
    refine XS.iconst X2.here hx rfl (hb hby own_d2_18) ?_
    show Steps p.tables e below (T2.setTop (mkF m 19 #[.val (.ref c4)] [(.int (0 : Int32))])) _
    exact retN X2 hx (t := .boolean) Bd.returns (by simp) (hb hby own_d2_19) hr
  · show own_Q _ h0 n0 _ T2.heap _
    exact ⟨rfl, N0, e2⟩
set_option maxRecDepth 65536 in
set_option maxHeartbeats 40000000 in
theorem own_r3_4 (l : Launch) (Z : State) (a0 : Array Value) (hw : ∀ d ∈ tables_1, d.before a0 Z = true) (ws : List Jvm.Cond)  (c0 c1 c2 c3 c4 c5 c6 : Addr) (h0 : Heap) (n0 : Nat) (Z0 : n0 ≤ h0.size) (K : own_W Z h0 c0 c1 c2 c3 c4 c5 c6)  :
    MetFree l (⟨"com/example/wengao/wengao/mapping/AuditRole", "isStampedOnSave", "()Z"⟩ : MethodName) (head1 (Jvm.Cond.code (⟨"com/example/wengao/wengao/mapping/AuditRole", "isStampedOnSave", "()Z"⟩ : MethodName) prog_21_method_7_code 1 (some .boolean) :: ws) ({ frames := 1, cells := 0, slots := 0, locals := 12 } : Room)) (fun a U => a = #[(.ref c4)] ∧ Z.Warmed39 U.vm ∧ U.heap = h0) (fun _ _ _ _ _ => True) (fun _ U o U' => ∃ v L, o = .returned v ∧ own_Q (.int (1 : Int32)) h0 n0 v U'.heap L ∧ FrameEnd U o U' L ({ frames := 1, cells := 0, slots := 0, locals := 12 } : Room).cells ({ frames := 1, cells := 0, slots := 0, locals := 12 } : Room).slots) := by
  have K' := K
  obtain ⟨S0, E0, S1, E1, S2, E2, S3, E3, S4, E4, S5, E5, S6, E6, F0, F1, F2, F3, F4, F5, F6⟩ := K'
  have ne_4_0 : ¬ (c4 = c0) := (Fld.ne F4 F0 (fun q => absurd (Value.int.inj q) (by decide)))
  refine MetFree.of_bodySF (plainFor_of_name own_pn1) hisR ?_
  intro p e s m args below meth c s₁ Bd hml0 hP hK
  obtain ⟨rfl, hZ, hh⟩ := hP
  have hx := Bd.exec
  have hby := Bd.bytes
  have hml : c.maxLocals = 1 := hml0
  have hown : s.vm.findClass "com/example/wengao/wengao/mapping/AuditRole" = some m.cls := findClass_of_methodNamed Bd.named
  have X0 : Stand p l e ({ frames := 1, cells := 0, slots := 0, locals := 12 } : Room) s m #[(.ref c4)] below meth c s₁ [] 0 0 := Stand.of_body Bd
  have e0 : s₁.heap = h0 := by rw [← hh, Bd.state]; rfl
  have N0 := Fr.nil n0
  have pre0 : ∀ t, Steps p.tables e below (s₁.setTop (mkF m 0 #[.val (.ref c4)] [])) t → Steps p.tables e below (s₁.setTop (entryFrame m #[(.ref c4)] 1)) t := fun t k => castTop (own_ef3 m c4) k
  obtain ⟨T1, X1, e1, st1⟩ := getS2 X0 hx hZ hown (host := "") (Or.inl (hw _ (List.mem_of_getElem? (i := 22) rfl))) Via.refl e0 S0 (g := (mkF m 1 #[.val (.ref c4)] [(.ref c4)])) rfl (hb hby own_d3_1)
  obtain ⟨cq2, kq2, q2a, q2b, q2c⟩ := isOf hZ e1 E4
  obtain ⟨_, _, ⟨T2, L2, k2, n2⟩, -, X2, ⟨Lc2, hQ2, l2, y2, z2⟩, st2⟩ := X1.virtualBack hx (y := (⟨"com/example/wengao/wengao/mapping/AuditRole", "isStampedOnDelete", "()Z"⟩ : MethodName)) (z := (⟨"com/example/wengao/wengao/mapping/AuditRole", "isStampedOnDelete", "()Z"⟩ : MethodName)) hown (mvT hZ (hw _ (List.mem_of_getElem? (i := 25) rfl))) (mvT hZ (hw _ (List.mem_of_getElem? (i := 9) rfl))) (notFace_of_selects (args := #[]) (mvT hZ (hw _ (List.mem_of_getElem? (i := 11) rfl)))) (mvT hZ (hw _ (List.mem_of_getElem? (i := 11) rfl))) (mvT hZ (hw _ (List.mem_of_getElem? (i := 10) rfl))) (by decide) (backOf (W := 0) (own_r2_4 l Z a0 hw [] c0 c1 c2 c3 c4 c5 c6 h0 n0 Z0 K) hZ (hw _ (List.mem_of_getElem? (i := 12) rfl)) (hw _ (List.mem_of_getElem? (i := 6) rfl)) (by decide) (by decide)) q2a q2c (g := (mkF m 8 #[.val (.ref c4)] [(.ref c4)])) rfl (by rw [hml]; rfl) (Steps.refl _) (argsL := []) (rest := []) (lenOf own_pd1 rfl) rfl (by show 2 * 0 + _ ≤ _; exact Nat.le_of_eq rfl) (hb hby own_d3_8) (fun _ _ => ⟨rfl, e1, (by decide : 0 + 0 ≤ _), (by decide : 0 + 0 ≤ _)⟩)
  dsimp only [Pt.U, Pt.locs, Pt.cells, Pt.slots] at X2 l2 y2 z2 st2 hQ2
  subst l2 y2 z2
  obtain ⟨rfl, N2q, e2⟩ := hQ2
  have N2 := Fr.app N0 N2q
  obtain ⟨fs, hr, hrun, hended, hW, hsame⟩ := X2.leave (v := some (.int (1 : Int32))) (fun h => by rw [Bd.returns] at h; cases h)
  refine ⟨_, _, pre0 _ ?_, hrun, hended, _, _, rfl, ?_, ⟨_, rfl⟩, hW, hsame.mono (by decide) (by decide)⟩
  · show Steps p.tables e below (s₁.setTop (mkF m 0 #[.val (.ref c4)] [])) _
    refine XS.aloadN X0.here hx rfl (hb hby own_d3_0) rfl rfl ?_
    show Steps p.tables e below (s₁.setTop (mkF m 1 #[.val (.ref c4)] [(.ref c4)])) _
    refine st1 _ ?_
    show Steps p.tables e below (T1.setTop (mkF m 4 #[.val (.ref c4)] [(.ref c0), (.ref c4)])) _
    refine Jvm.RoadKit.acmp (g := (mkF m 4 #[.val (.ref c4)] [(.ref c0), (.ref c4)])) X1 hx rfl rfl rfl (pc0 := 4) (pc' := 7) (same := false) rfl (hb hby own_d3_4) rfl (decide_eq_false fun q => ne_4_0 (Value.ref.inj q)) (by decide) (by decide) ?_
    show Steps p.tables e below (T1.setTop (mkF m 7 #[.val (.ref c4)] [])) _
    refine XS.aloadN X1.here hx rfl (hb hby own_d3_7) rfl rfl ?_
    show Steps p.tables e below (T1.setTop (mkF m 8 #[.val (.ref c4)] [(.ref c4)])) _
    refine st2.trans ?_
    show Steps p.tables e below (T2.setTop (mkF m 11 #[.val (.ref c4)] [(.int (0 : Int32))])) _
    refine XS.ifNo X2.here hx rfl (hb hby own_d3_11) rfl ((if0 _ _).trans (teq (by decide : (0 : Int32) = (0 : Int32))).2) ?_
    show Steps p.tables e below (T2.setTop (mkF m 14 #[.val (.ref c4)] [])) _
    refine XS.iconst X2.here hx rfl (hb hby own_d3_14) ?_
    show Steps p.tables e below (T2.setTop (mkF m 15 #[.val (.ref c4)] [(.int (1 : Int32))])) _
    refine XS.goto X2.here hx rfl (pc0 := 15) (pc' := 19) rfl (hb hby own_d3_15) (by decide) (by decide) ?_
    show Steps p.tables e below (T2.setTop (mkF m 19 #[.val (.ref c4)] [(.int (1 : Int32))])) _
    exact retN X2 hx (t := .boolean) Bd.returns (by simp) (hb hby own_d3_19) hr
  · show own_Q _ h0 n0 _ T2.heap _
    exact ⟨rfl, N2, e2⟩
set_option maxRecDepth 65536 in
set_option maxHeartbeats 40000000 in
theorem own_r0_4 (l : Launch) (Z : State) (a0 : Array Value) (hw : ∀ d ∈ tables_1, d.before a0 Z = true) (ws : List Jvm.Cond) (p0 : Int32) (c0 c1 c2 c3 c4 c5 c6 : Addr) (h0 : Heap) (n0 : Nat) (Z0 : n0 ≤ h0.size) (K : own_W Z h0 c0 c1 c2 c3 c4 c5 c6) (hk0 : ((p0 &&& (2147483647 : Int32)) % (7 : Int32)) = (4 : Int32)) :
    MetFree l x (head1 (Jvm.Cond.code x code maxLocals ret :: ws) room_1) (fun a U => a = #[(.int p0)] ∧ Z.Warmed39 U.vm ∧ U.heap = h0) (fun _ _ _ _ _ => True) (fun _ U o U' => ∃ v L, o = .returned v ∧ own_Q (.int (1 : Int32)) h0 n0 v U'.heap L ∧ FrameEnd U o U' L room_1.cells room_1.slots) := by
  have K' := K
  obtain ⟨S0, E0, S1, E1, S2, E2, S3, E3, S4, E4, S5, E5, S6, E6, F0, F1, F2, F3, F4, F5, F6⟩ := K'
  refine MetFree.of_bodySF (plainFor_of_name own_pn0) hisR ?_
  intro p e s m args below meth c s₁ Bd hml0 hP hK
  obtain ⟨rfl, hZ, hh⟩ := hP
  have hx := Bd.exec
  have hby := Bd.bytes
  have hml : c.maxLocals = 8 := hml0
  have hown : s.vm.findClass "com/example/wengao/wengao/mapping/AuditRoleIsStampedOnDeletePinLaw" = some m.cls := findClass_of_methodNamed Bd.named
  have X0 : Stand p l e room_1 s m #[(.int p0)] below meth c s₁ [] 0 0 := Stand.of_body Bd
  have e0 : s₁.heap = h0 := by rw [← hh, Bd.state]; rfl
  have N0 := Fr.nil n0
  have pre0 : ∀ t, Steps p.tables e below (s₁.setTop (mkF m 0 #[.val (.int p0), .unset, .unset, .unset, .unset, .unset, .unset, .unset] [])) t → Steps p.tables e below (s₁.setTop (entryFrame m #[(.int p0)] maxLocals)) t := fun t k => castTop (own_ef0 m p0) k
  obtain ⟨_, _, ⟨T1, L1, k1, n1⟩, -, X1, ⟨Lc1, hQ1, l1, y1, z1⟩, st1⟩ := Jvm.LawKit.callS X0 hx (y := (⟨"com/example/wengao/wengao/mapping/AuditRoleIsStampedOnDeletePinLaw", "pick", "(I)Lcom/example/wengao/wengao/mapping/AuditRole;"⟩ : MethodName)) hown (mvT hZ (hw _ (List.mem_of_getElem? (i := 1) rfl))) (mvT hZ (hw _ (List.mem_of_getElem? (i := 2) rfl))) (mvT hZ (hw _ (List.mem_of_getElem? (i := 3) rfl))) (mvT hZ (hw _ (List.mem_of_getElem? (i := 4) rfl))) (by decide) (backOf (W := 0) (own_r1_4 l Z a0 hw [] c0 c1 c2 c3 c4 c5 c6 h0 n0 Z0 K) hZ (hw _ (List.mem_of_getElem? (i := 4) rfl)) (hw _ (List.mem_of_getElem? (i := 3) rfl)) (by decide) (by decide)) (g := (mkF m 9 #[.val (.int p0), .val (.int (4 : Int32)), .unset, .unset, .unset, .unset, .unset, .unset] [(.int (4 : Int32))])) rfl (by rw [hml]; rfl) (argsL := [(.int (4 : Int32))]) (rest := []) (lenOf own_pd0 rfl) rfl (by show 2 * 0 + _ ≤ _; exact Nat.le_of_eq rfl) (hb hby at_9) (fun _ _ => ⟨rfl, e0, (by decide : 0 + 0 ≤ _), (by decide : 0 + 0 ≤ _)⟩)
  dsimp only [Pt.U, Pt.locs, Pt.cells, Pt.slots] at X1 l1 y1 z1 st1 hQ1
  subst l1 y1 z1
  obtain ⟨rfl, N1q, e1⟩ := hQ1
  have N1 := Fr.app N0 N1q
  obtain ⟨cq2, kq2, q2a, q2b, q2c⟩ := isOf hZ e1 E4
  obtain ⟨_, _, ⟨T2, L2, k2, n2⟩, -, X2, ⟨Lc2, hQ2, l2, y2, z2⟩, st2⟩ := X1.virtualBack hx (y := (⟨"com/example/wengao/wengao/mapping/AuditRole", "isStampedOnDelete", "()Z"⟩ : MethodName)) (z := (⟨"com/example/wengao/wengao/mapping/AuditRole", "isStampedOnDelete", "()Z"⟩ : MethodName)) hown (mvT hZ (hw _ (List.mem_of_getElem? (i := 8) rfl))) (mvT hZ (hw _ (List.mem_of_getElem? (i := 9) rfl))) (notFace_of_selects (args := #[]) (mvT hZ (hw _ (List.mem_of_getElem? (i := 11) rfl)))) (mvT hZ (hw _ (List.mem_of_getElem? (i := 11) rfl))) (mvT hZ (hw _ (List.mem_of_getElem? (i := 10) rfl))) (by decide) (backOf (W := 0) (own_r2_4 l Z a0 hw [] c0 c1 c2 c3 c4 c5 c6 h0 n0 Z0 K) hZ (hw _ (List.mem_of_getElem? (i := 12) rfl)) (hw _ (List.mem_of_getElem? (i := 6) rfl)) (by decide) (by decide)) q2a q2c (g := (mkF m 31 #[.val (.int p0), .val (.int (4 : Int32)), .val (.ref c4), .val (.int (0 : Int32)), .unset, .unset, .unset, .unset] [(.ref c4)])) rfl (by rw [hml]; rfl) (Steps.refl _) (argsL := []) (rest := []) (lenOf own_pd1 rfl) rfl (by show 2 * 0 + _ ≤ _; exact Nat.le_of_eq rfl) (hb hby at_31) (fun _ _ => ⟨rfl, e1, (by decide : 0 + 0 ≤ _), (by decide : 0 + 0 ≤ _)⟩)
  dsimp only [Pt.U, Pt.locs, Pt.cells, Pt.slots] at X2 l2 y2 z2 st2 hQ2
  subst l2 y2 z2
  obtain ⟨rfl, N2q, e2⟩ := hQ2
  have N2 := Fr.app N1 N2q
  obtain ⟨cq3, kq3, q3a, q3b, q3c⟩ := isOf hZ e2 E4
  obtain ⟨_, _, ⟨T3, L3, k3, n3⟩, -, X3, ⟨Lc3, hQ3, l3, y3, z3⟩, st3⟩ := X2.virtualBack hx (y := (⟨"com/example/wengao/wengao/mapping/AuditRole", "isStampedOnSave", "()Z"⟩ : MethodName)) (z := (⟨"com/example/wengao/wengao/mapping/AuditRole", "isStampedOnSave", "()Z"⟩ : MethodName)) hown (mvT hZ (hw _ (List.mem_of_getElem? (i := 17) rfl))) (mvT hZ (hw _ (List.mem_of_getElem? (i := 18) rfl))) (notFace_of_selects (args := #[]) (mvT hZ (hw _ (List.mem_of_getElem? (i := 20) rfl)))) (mvT hZ (hw _ (List.mem_of_getElem? (i := 20) rfl))) (mvT hZ (hw _ (List.mem_of_getElem? (i := 19) rfl))) (by decide) (backOf (W := 0) (own_r3_4 l Z a0 hw [] c0 c1 c2 c3 c4 c5 c6 h0 n0 Z0 K) hZ (hw _ (List.mem_of_getElem? (i := 21) rfl)) (hw _ (List.mem_of_getElem? (i := 6) rfl)) (by decide) (by decide)) q3a q3c (g := (mkF m 56 #[.val (.int p0), .val (.int (4 : Int32)), .val (.ref c4), .val (.int (0 : Int32)), .val (.int (0 : Int32)), .val (.int (0 : Int32)), .unset, .unset] [(.ref c4)])) rfl (by rw [hml]; rfl) (Steps.refl _) (argsL := []) (rest := []) (lenOf own_pd1 rfl) rfl (by show 2 * 0 + _ ≤ _; exact Nat.le_of_eq rfl) (hb hby at_56) (fun _ _ => ⟨rfl, e2, (by decide : 0 + 0 ≤ _), (by decide : 0 + 0 ≤ _)⟩)
  dsimp only [Pt.U, Pt.locs, Pt.cells, Pt.slots] at X3 l3 y3 z3 st3 hQ3
  subst l3 y3 z3
  obtain ⟨rfl, N3q, e3⟩ := hQ3
  have N3 := Fr.app N2 N3q
  obtain ⟨fs, hr, hrun, hended, hW, hsame⟩ := X3.leave (v := some (.int (1 : Int32))) (fun h => by rw [Bd.returns] at h; cases h)
  refine ⟨_, _, pre0 _ ?_, hrun, hended, _, _, rfl, ?_, ⟨_, rfl⟩, hW, hsame.mono (by decide) (by decide)⟩
  · show Steps p.tables e below (s₁.setTop (mkF m 0 #[.val (.int p0), .unset, .unset, .unset, .unset, .unset, .unset, .unset] [])) _
    refine XS.iloadN X0.here hx rfl (hb hby at_0) rfl ?_
    show Steps p.tables e below (s₁.setTop (mkF m 1 #[.val (.int p0), .unset, .unset, .unset, .unset, .unset, .unset, .unset] [(.int p0)])) _
    refine X0.ldcInt hx hown (mvT hZ (hw _ (List.mem_of_getElem? (i := 0) rfl))) (g := (mkF m 1 #[.val (.int p0), .unset, .unset, .unset, .unset, .unset, .unset, .unset] [(.int p0)])) rfl (hb hby at_1) _ ?_
    show Steps p.tables e below (s₁.setTop (mkF m 3 #[.val (.int p0), .unset, .unset, .unset, .unset, .unset, .unset, .unset] [(.int (2147483647 : Int32)), (.int p0)])) _
    refine XS.iand X0.here hx rfl (hb hby at_3) rfl ?_
    show Steps p.tables e below (s₁.setTop (mkF m 4 #[.val (.int p0), .unset, .unset, .unset, .unset, .unset, .unset, .unset] [(.int (p0 &&& (2147483647 : Int32)))])) _
    refine XS.bipush X0.here hx rfl (hb hby at_4) ?_
    show Steps p.tables e below (s₁.setTop (mkF m 6 #[.val (.int p0), .unset, .unset, .unset, .unset, .unset, .unset, .unset] [(.int (7 : Int32)), (.int (p0 &&& (2147483647 : Int32)))])) _
    refine iremM X0 hx rfl (hb hby at_6) rfl (by decide) ?_
    show Steps p.tables e below (s₁.setTop (mkF m 7 #[.val (.int p0), .unset, .unset, .unset, .unset, .unset, .unset, .unset] [(.int ((p0 &&& (2147483647 : Int32)) % (7 : Int32)))])) _
    rw [hk0]
    show Steps p.tables e below (s₁.setTop (mkF m 7 #[.val (.int p0), .unset, .unset, .unset, .unset, .unset, .unset, .unset] [(.int (4 : Int32))])) _
    refine XS.istoreN X0.here hx rfl (hb hby at_7) rfl (l' := #[.val (.int p0), .val (.int (4 : Int32)), .unset, .unset, .unset, .unset, .unset, .unset]) rfl ?_
    show Steps p.tables e below (s₁.setTop (mkF m 8 #[.val (.int p0), .val (.int (4 : Int32)), .unset, .unset, .unset, .unset, .unset, .unset] [])) _
    refine XS.iloadN X0.here hx rfl (hb hby at_8) rfl ?_
    show Steps p.tables e below (s₁.setTop (mkF m 9 #[.val (.int p0), .val (.int (4 : Int32)), .unset, .unset, .unset, .unset, .unset, .unset] [(.int (4 : Int32))])) _
    refine st1 _ ?_
    show Steps p.tables e below (T1.setTop (mkF m 12 #[.val (.int p0), .val (.int (4 : Int32)), .unset, .unset, .unset, .unset, .unset, .unset] [(.ref c4)])) _
    refine XS.astoreN X1.here hx rfl (hb hby at_12) rfl rfl (l' := #[.val (.int p0), .val (.int (4 : Int32)), .val (.ref c4), .unset, .unset, .unset, .unset, .unset]) rfl ?_
    show Steps p.tables e below (T1.setTop (mkF m 13 #[.val (.int p0), .val (.int (4 : Int32)), .val (.ref c4), .unset, .unset, .unset, .unset, .unset] [])) _
    refine XS.iloadN X1.here hx rfl (hb hby at_13) rfl ?_
    show Steps p.tables e below (T1.setTop (mkF m 14 #[.val (.int p0), .val (.int (4 : Int32)), .val (.ref c4), .unset, .unset, .unset, .unset, .unset] [(.int (4 : Int32))])) _
    refine XS.iconst X1.here hx rfl (hb hby at_14) ?_
    show Steps p.tables e below (T1.setTop (mkF m 15 #[.val (.int p0), .val (.int (4 : Int32)), .val (.ref c4), .unset, .unset, .unset, .unset, .unset] [(.int (5 : Int32)), (.int (4 : Int32))])) _
    refine XS.icmpNo X1.here hx rfl (hb hby at_15) rfl (feq (by decide : ¬ ((4 : Int32) = (5 : Int32)))).1 ?_
    show Steps p.tables e below (T1.setTop (mkF m 18 #[.val (.int p0), .val (.int (4 : Int32)), .val (.ref c4), .unset, .unset, .unset, .unset, .unset] [])) _
    refine XS.iloadN X1.here hx rfl (hb hby at_18) rfl ?_
    show Steps p.tables e below (T1.setTop (mkF m 19 #[.val (.int p0), .val (.int (4 : Int32)), .val (.ref c4), .unset, .unset, .unset, .unset, .unset] [(.int (4 : Int32))])) _
    refine XS.bipush X1.here hx rfl (hb hby at_19) ?_
    show Steps p.tables e below (T1.setTop (mkF m 21 #[.val (.int p0), .val (.int (4 : Int32)), .val (.ref c4), .unset, .unset, .unset, .unset, .unset] [(.int (6 : Int32)), (.int (4 : Int32))])) _
    refine XS.icmpYes X1.here hx rfl (pc0 := 21) (pc' := 28) rfl (hb hby at_21) rfl (feq (by decide : ¬ ((4 : Int32) = (6 : Int32)))).2 (by decide) (by decide) ?_
    show Steps p.tables e below (T1.setTop (mkF m 28 #[.val (.int p0), .val (.int (4 : Int32)), .val (.ref c4), .unset, .unset, .unset, .unset, .unset] [])) _
    refine XS.iconst X1.here hx rfl (hb hby at_28) ?_
    show Steps p.tables e below (T1.setTop (mkF m 29 #[.val (.int p0), .val (.int (4 : Int32)), .val (.ref c4), .unset, .unset, .unset, .unset, .unset] [(.int (0 : Int32))])) _
    refine XS.istoreN X1.here hx rfl (hb hby at_29) rfl (l' := #[.val (.int p0), .val (.int (4 : Int32)), .val (.ref c4), .val (.int (0 : Int32)), .unset, .unset, .unset, .unset]) rfl ?_
    show Steps p.tables e below (T1.setTop (mkF m 30 #[.val (.int p0), .val (.int (4 : Int32)), .val (.ref c4), .val (.int (0 : Int32)), .unset, .unset, .unset, .unset] [])) _
    refine XS.aloadN X1.here hx rfl (hb hby at_30) rfl rfl ?_
    show Steps p.tables e below (T1.setTop (mkF m 31 #[.val (.int p0), .val (.int (4 : Int32)), .val (.ref c4), .val (.int (0 : Int32)), .unset, .unset, .unset, .unset] [(.ref c4)])) _
    refine st2.trans ?_
    show Steps p.tables e below (T2.setTop (mkF m 34 #[.val (.int p0), .val (.int (4 : Int32)), .val (.ref c4), .val (.int (0 : Int32)), .unset, .unset, .unset, .unset] [(.int (0 : Int32))])) _
    refine XS.istore X2.here hx rfl (hb hby at_34) rfl (l' := #[.val (.int p0), .val (.int (4 : Int32)), .val (.ref c4), .val (.int (0 : Int32)), .val (.int (0 : Int32)), .unset, .unset, .unset]) rfl ?_
    show Steps p.tables e below (T2.setTop (mkF m 36 #[.val (.int p0), .val (.int (4 : Int32)), .val (.ref c4), .val (.int (0 : Int32)), .val (.int (0 : Int32)), .unset, .unset, .unset] [])) _
    refine XS.iload X2.here hx rfl (hb hby at_36) rfl ?_
    show Steps p.tables e below (T2.setTop (mkF m 38 #[.val (.int p0), .val (.int (4 : Int32)), .val (.ref c4), .val (.int (0 : Int32)), .val (.int (0 : Int32)), .unset, .unset, .unset] [(.int (0 : Int32))])) _
    refine XS.iloadN X2.here hx rfl (hb hby at_38) rfl ?_
    show Steps p.tables e below (T2.setTop (mkF m 39 #[.val (.int p0), .val (.int (4 : Int32)), .val (.ref c4), .val (.int (0 : Int32)), .val (.int (0 : Int32)), .unset, .unset, .unset] [(.int (0 : Int32)), (.int (0 : Int32))])) _
    refine XS.icmpYes X2.here hx rfl (pc0 := 39) (pc' := 44) rfl (hb hby at_39) rfl (teq (by decide : (0 : Int32) = (0 : Int32))).1 (by decide) (by decide) ?_
    show Steps p.tables e below (T2.setTop (mkF m 44 #[.val (.int p0), .val (.int (4 : Int32)), .val (.ref c4), .val (.int (0 : Int32)), .val (.int (0 : Int32)), .unset, .unset, .unset] [])) _
    refine XS.iloadN X2.here hx rfl (hb hby at_44) rfl ?_
    show Steps p.tables e below (T2.setTop (mkF m 45 #[.val (.int p0), .val (.int (4 : Int32)), .val (.ref c4), .val (.int (0 : Int32)), .val (.int (0 : Int32)), .unset, .unset, .unset] [(.int (4 : Int32))])) _
    refine XS.ifYes X2.here hx rfl (pc0 := 45) (pc' := 52) rfl (hb hby at_45) rfl ((if0 _ _).trans (feq (by decide : ¬ ((4 : Int32) = (0 : Int32)))).2) (by decide) (by decide) ?_
    show Steps p.tables e below (T2.setTop (mkF m 52 #[.val (.int p0), .val (.int (4 : Int32)), .val (.ref c4), .val (.int (0 : Int32)), .val (.int (0 : Int32)), .unset, .unset, .unset] [])) _
    refine XS.iconst X2.here hx rfl (hb hby at_52) ?_
    show Steps p.tables e below (T2.setTop (mkF m 53 #[.val (.int p0), .val (.int (4 : Int32)), .val (.ref c4), .val (.int (0 : Int32)), .val (.int (0 : Int32)), .unset, .unset, .unset] [(.int (0 : Int32))])) _
    refine XS.istore X2.here hx rfl (hb hby at_53) rfl (l' := #[.val (.int p0), .val (.int (4 : Int32)), .val (.ref c4), .val (.int (0 : Int32)), .val (.int (0 : Int32)), .val (.int (0 : Int32)), .unset, .unset]) rfl ?_
    show Steps p.tables e below (T2.setTop (mkF m 55 #[.val (.int p0), .val (.int (4 : Int32)), .val (.ref c4), .val (.int (0 : Int32)), .val (.int (0 : Int32)), .val (.int (0 : Int32)), .unset, .unset] [])) _
    refine XS.aloadN X2.here hx rfl (hb hby at_55) rfl rfl ?_
    show Steps p.tables e below (T2.setTop (mkF m 56 #[.val (.int p0), .val (.int (4 : Int32)), .val (.ref c4), .val (.int (0 : Int32)), .val (.int (0 : Int32)), .val (.int (0 : Int32)), .unset, .unset] [(.ref c4)])) _
    refine st3.trans ?_
    show Steps p.tables e below (T3.setTop (mkF m 59 #[.val (.int p0), .val (.int (4 : Int32)), .val (.ref c4), .val (.int (0 : Int32)), .val (.int (0 : Int32)), .val (.int (0 : Int32)), .unset, .unset] [(.int (1 : Int32))])) _
    refine XS.istore X3.here hx rfl (hb hby at_59) rfl (l' := #[.val (.int p0), .val (.int (4 : Int32)), .val (.ref c4), .val (.int (0 : Int32)), .val (.int (0 : Int32)), .val (.int (0 : Int32)), .val (.int (1 : Int32)), .unset]) rfl ?_
    show Steps p.tables e below (T3.setTop (mkF m 61 #[.val (.int p0), .val (.int (4 : Int32)), .val (.ref c4), .val (.int (0 : Int32)), .val (.int (0 : Int32)), .val (.int (0 : Int32)), .val (.int (1 : Int32)), .unset] [])) _
    refine XS.iload X3.here hx rfl (hb hby at_61) rfl ?_
    show Steps p.tables e below (T3.setTop (mkF m 63 #[.val (.int p0), .val (.int (4 : Int32)), .val (.ref c4), .val (.int (0 : Int32)), .val (.int (0 : Int32)), .val (.int (0 : Int32)), .val (.int (1 : Int32)), .unset] [(.int (0 : Int32))])) _
    refine XS.ifYes X3.here hx rfl (pc0 := 63) (pc' := 70) rfl (hb hby at_63) rfl ((if0 _ _).trans (teq (by decide : (0 : Int32) = (0 : Int32))).1) (by decide) (by decide) ?_
    show Steps p.tables e below (T3.setTop (mkF m 70 #[.val (.int p0), .val (.int (4 : Int32)), .val (.ref c4), .val (.int (0 : Int32)), .val (.int (0 : Int32)), .val (.int (0 : Int32)), .val (.int (1 : Int32)), .unset] [])) _
    refine XS.iconst X3.here hx rfl (hb hby at_70) ?_
    show Steps p.tables e below (T3.setTop (mkF m 71 #[.val (.int p0), .val (.int (4 : Int32)), .val (.ref c4), .val (.int (0 : Int32)), .val (.int (0 : Int32)), .val (.int (0 : Int32)), .val (.int (1 : Int32)), .unset] [(.int (0 : Int32))])) _
    refine XS.iload X3.here hx rfl (hb hby at_71) rfl ?_
    show Steps p.tables e below (T3.setTop (mkF m 73 #[.val (.int p0), .val (.int (4 : Int32)), .val (.ref c4), .val (.int (0 : Int32)), .val (.int (0 : Int32)), .val (.int (0 : Int32)), .val (.int (1 : Int32)), .unset] [(.int (1 : Int32)), (.int (0 : Int32))])) _
    refine XS.ifNo X3.here hx rfl (hb hby at_73) rfl ((if0 _ _).trans (feq (by decide : ¬ ((1 : Int32) = (0 : Int32)))).1) ?_
    show Steps p.tables e below (T3.setTop (mkF m 76 #[.val (.int p0), .val (.int (4 : Int32)), .val (.ref c4), .val (.int (0 : Int32)), .val (.int (0 : Int32)), .val (.int (0 : Int32)), .val (.int (1 : Int32)), .unset] [(.int (0 : Int32))])) _
    refine XS.iconst X3.here hx rfl (hb hby at_76) ?_
    show Steps p.tables e below (T3.setTop (mkF m 77 #[.val (.int p0), .val (.int (4 : Int32)), .val (.ref c4), .val (.int (0 : Int32)), .val (.int (0 : Int32)), .val (.int (0 : Int32)), .val (.int (1 : Int32)), .unset] [(.int (1 : Int32)), (.int (0 : Int32))])) _
    refine XS.goto X3.here hx rfl (pc0 := 77) (pc' := 81) rfl (hb hby at_77) (by decide) (by decide) ?_
    show Steps p.tables e below (T3.setTop (mkF m 81 #[.val (.int p0), .val (.int (4 : Int32)), .val (.ref c4), .val (.int (0 : Int32)), .val (.int (0 : Int32)), .val (.int (0 : Int32)), .val (.int (1 : Int32)), .unset] [(.int (1 : Int32)), (.int (0 : Int32))])) _
    refine XS.iadd X3.here hx rfl (hb hby at_81) rfl ?_
    show Steps p.tables e below (T3.setTop (mkF m 82 #[.val (.int p0), .val (.int (4 : Int32)), .val (.ref c4), .val (.int (0 : Int32)), .val (.int (0 : Int32)), .val (.int (0 : Int32)), .val (.int (1 : Int32)), .unset] [(.int ((0 : Int32) + (1 : Int32)))])) _
    refine XS.iload X3.here hx rfl (hb hby at_82) rfl ?_
    show Steps p.tables e below (T3.setTop (mkF m 84 #[.val (.int p0), .val (.int (4 : Int32)), .val (.ref c4), .val (.int (0 : Int32)), .val (.int (0 : Int32)), .val (.int (0 : Int32)), .val (.int (1 : Int32)), .unset] [(.int (0 : Int32)), (.int ((0 : Int32) + (1 : Int32)))])) _
    refine XS.ifYes X3.here hx rfl (pc0 := 84) (pc' := 91) rfl (hb hby at_84) rfl ((if0 _ _).trans (teq (by decide : (0 : Int32) = (0 : Int32))).1) (by decide) (by decide) ?_
    show Steps p.tables e below (T3.setTop (mkF m 91 #[.val (.int p0), .val (.int (4 : Int32)), .val (.ref c4), .val (.int (0 : Int32)), .val (.int (0 : Int32)), .val (.int (0 : Int32)), .val (.int (1 : Int32)), .unset] [(.int ((0 : Int32) + (1 : Int32)))])) _
    refine XS.iconst X3.here hx rfl (hb hby at_91) ?_
    show Steps p.tables e below (T3.setTop (mkF m 92 #[.val (.int p0), .val (.int (4 : Int32)), .val (.ref c4), .val (.int (0 : Int32)), .val (.int (0 : Int32)), .val (.int (0 : Int32)), .val (.int (1 : Int32)), .unset] [(.int (0 : Int32)), (.int ((0 : Int32) + (1 : Int32)))])) _
    refine XS.iadd X3.here hx rfl (hb hby at_92) rfl ?_
    show Steps p.tables e below (T3.setTop (mkF m 93 #[.val (.int p0), .val (.int (4 : Int32)), .val (.ref c4), .val (.int (0 : Int32)), .val (.int (0 : Int32)), .val (.int (0 : Int32)), .val (.int (1 : Int32)), .unset] [(.int (((0 : Int32) + (1 : Int32)) + (0 : Int32)))])) _
    refine XS.istore X3.here hx rfl (hb hby at_93) rfl (l' := #[.val (.int p0), .val (.int (4 : Int32)), .val (.ref c4), .val (.int (0 : Int32)), .val (.int (0 : Int32)), .val (.int (0 : Int32)), .val (.int (1 : Int32)), .val (.int (((0 : Int32) + (1 : Int32)) + (0 : Int32)))]) rfl ?_
    show Steps p.tables e below (T3.setTop (mkF m 95 #[.val (.int p0), .val (.int (4 : Int32)), .val (.ref c4), .val (.int (0 : Int32)), .val (.int (0 : Int32)), .val (.int (0 : Int32)), .val (.int (1 : Int32)), .val (.int (((0 : Int32) + (1 : Int32)) + (0 : Int32)))] [])) _
    refine XS.iload X3.here hx rfl (hb hby at_95) rfl ?_
    show Steps p.tables e below (T3.setTop (mkF m 97 #[.val (.int p0), .val (.int (4 : Int32)), .val (.ref c4), .val (.int (0 : Int32)), .val (.int (0 : Int32)), .val (.int (0 : Int32)), .val (.int (1 : Int32)), .val (.int (((0 : Int32) + (1 : Int32)) + (0 : Int32)))] [(.int (((0 : Int32) + (1 : Int32)) + (0 : Int32)))])) _
    refine XS.iconst X3.here hx rfl (hb hby at_97) ?_
    show Steps p.tables e below (T3.setTop (mkF m 98 #[.val (.int p0), .val (.int (4 : Int32)), .val (.ref c4), .val (.int (0 : Int32)), .val (.int (0 : Int32)), .val (.int (0 : Int32)), .val (.int (1 : Int32)), .val (.int (((0 : Int32) + (1 : Int32)) + (0 : Int32)))] [(.int (1 : Int32)), (.int (((0 : Int32) + (1 : Int32)) + (0 : Int32)))])) _
    refine XS.icmpNo X3.here hx rfl (hb hby at_98) rfl (teq (by decide : (((0 : Int32) + (1 : Int32)) + (0 : Int32)) = (1 : Int32))).2 ?_
    show Steps p.tables e below (T3.setTop (mkF m 101 #[.val (.int p0), .val (.int (4 : Int32)), .val (.ref c4), .val (.int (0 : Int32)), .val (.int (0 : Int32)), .val (.int (0 : Int32)), .val (.int (1 : Int32)), .val (.int (((0 : Int32) + (1 : Int32)) + (0 : Int32)))] [])) _
    refine XS.iconst X3.here hx rfl (hb hby at_101) ?_
    show Steps p.tables e below (T3.setTop (mkF m 102 #[.val (.int p0), .val (.int (4 : Int32)), .val (.ref c4), .val (.int (0 : Int32)), .val (.int (0 : Int32)), .val (.int (0 : Int32)), .val (.int (1 : Int32)), .val (.int (((0 : Int32) + (1 : Int32)) + (0 : Int32)))] [(.int (1 : Int32))])) _
    refine XS.goto X3.here hx rfl (pc0 := 102) (pc' := 106) rfl (hb hby at_102) (by decide) (by decide) ?_
    show Steps p.tables e below (T3.setTop (mkF m 106 #[.val (.int p0), .val (.int (4 : Int32)), .val (.ref c4), .val (.int (0 : Int32)), .val (.int (0 : Int32)), .val (.int (0 : Int32)), .val (.int (1 : Int32)), .val (.int (((0 : Int32) + (1 : Int32)) + (0 : Int32)))] [(.int (1 : Int32))])) _
    exact retN X3 hx (t := .boolean) Bd.returns (by simp) (hb hby at_106) hr
  · show own_Q _ h0 n0 _ T3.heap _
    exact ⟨rfl, N3, e3⟩
theorem own_d1_44 : decode method_3_code 44 = .ok (.iload_n 0, 1) := by decide +kernel
theorem own_d1_45 : decode method_3_code 45 = .ok (.iconst 5, 1) := by decide +kernel
theorem own_d1_46 : decode method_3_code 46 = .ok (.if_icmp .ne 7, 3) := by decide +kernel
theorem own_d1_49 : decode method_3_code 49 = .ok (.getstatic 39, 3) := by decide +kernel
theorem own_d1_52 : decode method_3_code 52 = .ok (.areturn, 1) := by decide +kernel
set_option maxRecDepth 65536 in
set_option maxHeartbeats 40000000 in
theorem own_r1_5 (l : Launch) (Z : State) (a0 : Array Value) (hw : ∀ d ∈ tables_1, d.before a0 Z = true) (ws : List Jvm.Cond)  (c0 c1 c2 c3 c4 c5 c6 : Addr) (h0 : Heap) (n0 : Nat) (Z0 : n0 ≤ h0.size) (K : own_W Z h0 c0 c1 c2 c3 c4 c5 c6)  :
    MetFree l (⟨"com/example/wengao/wengao/mapping/AuditRoleIsStampedOnDeletePinLaw", "pick", "(I)Lcom/example/wengao/wengao/mapping/AuditRole;"⟩ : MethodName) (head1 (Jvm.Cond.code (⟨"com/example/wengao/wengao/mapping/AuditRoleIsStampedOnDeletePinLaw", "pick", "(I)Lcom/example/wengao/wengao/mapping/AuditRole;"⟩ : MethodName) method_3_code 1 (some (.object "com/example/wengao/wengao/mapping/AuditRole")) :: ws) ({ frames := 0, cells := 0, slots := 0, locals := 0 } : Room)) (fun a U => a = #[(.int (5 : Int32))] ∧ Z.Warmed39 U.vm ∧ U.heap = h0) (fun _ _ _ _ _ => True) (fun _ U o U' => ∃ v L, o = .returned v ∧ own_Q (.ref c1) h0 n0 v U'.heap L ∧ FrameEnd U o U' L ({ frames := 0, cells := 0, slots := 0, locals := 0 } : Room).cells ({ frames := 0, cells := 0, slots := 0, locals := 0 } : Room).slots) := by
  have K' := K
  obtain ⟨S0, E0, S1, E1, S2, E2, S3, E3, S4, E4, S5, E5, S6, E6, F0, F1, F2, F3, F4, F5, F6⟩ := K'
  refine MetFree.of_bodySF (plainFor_of_name own_pn0) hisR ?_
  intro p e s m args below meth c s₁ Bd hml0 hP hK
  obtain ⟨rfl, hZ, hh⟩ := hP
  have hx := Bd.exec
  have hby := Bd.bytes
  have hml : c.maxLocals = 1 := hml0
  have hown : s.vm.findClass "com/example/wengao/wengao/mapping/AuditRoleIsStampedOnDeletePinLaw" = some m.cls := findClass_of_methodNamed Bd.named
  have X0 : Stand p l e ({ frames := 0, cells := 0, slots := 0, locals := 0 } : Room) s m #[(.int (5 : Int32))] below meth c s₁ [] 0 0 := Stand.of_body Bd
  have e0 : s₁.heap = h0 := by rw [← hh, Bd.state]; rfl
  have N0 := Fr.nil n0
  have pre0 : ∀ t, Steps p.tables e below (s₁.setTop (mkF m 0 #[.val (.int (5 : Int32))] [])) t → Steps p.tables e below (s₁.setTop (entryFrame m #[(.int (5 : Int32))] 1)) t := fun t k => castTop (own_ef1 m (5 : Int32)) k
  obtain ⟨T1, X1, e1, st1⟩ := getS2 X0 hx hZ hown (host := "") (Or.inl (hw _ (List.mem_of_getElem? (i := 26) rfl))) Via.refl e0 S1 (g := (mkF m 49 #[.val (.int (5 : Int32))] [])) rfl (hb hby own_d1_49)
  obtain ⟨fs, hr, hrun, hended, hW, hsame⟩ := X1.leave (v := some (.ref c1)) (fun h => by rw [Bd.returns] at h; cases h)
  refine ⟨_, _, pre0 _ ?_, hrun, hended, _, _, rfl, ?_, ⟨_, rfl⟩, hW, hsame.mono (by decide) (by decide)⟩
  · show Steps p.tables e below (s₁.setTop (mkF m 0 #[.val (.int (5 : Int32))] [])) _
    refine XS.iloadN X0.here hx rfl (hb hby own_d1_0) rfl ?_
    show Steps p.tables e below (s₁.setTop (mkF m 1 #[.val (.int (5 : Int32))] [(.int (5 : Int32))])) _
    refine XS.ifYes X0.here hx rfl (pc0 := 1) (pc' := 8) rfl (hb hby own_d1_1) rfl ((if0 _ _).trans (feq (by decide : ¬ ((5 : Int32) = (0 : Int32)))).2) (by decide) (by decide) ?_
    show Steps p.tables e below (s₁.setTop (mkF m 8 #[.val (.int (5 : Int32))] [])) _
    refine XS.iloadN X0.here hx rfl (hb hby own_d1_8) rfl ?_
    show Steps p.tables e below (s₁.setTop (mkF m 9 #[.val (.int (5 : Int32))] [(.int (5 : Int32))])) _
    refine XS.iconst X0.here hx rfl (hb hby own_d1_9) ?_
    show Steps p.tables e below (s₁.setTop (mkF m 10 #[.val (.int (5 : Int32))] [(.int (1 : Int32)), (.int (5 : Int32))])) _
    refine XS.icmpYes X0.here hx rfl (pc0 := 10) (pc' := 17) rfl (hb hby own_d1_10) rfl (feq (by decide : ¬ ((5 : Int32) = (1 : Int32)))).2 (by decide) (by decide) ?_
    show Steps p.tables e below (s₁.setTop (mkF m 17 #[.val (.int (5 : Int32))] [])) _
    refine XS.iloadN X0.here hx rfl (hb hby own_d1_17) rfl ?_
    show Steps p.tables e below (s₁.setTop (mkF m 18 #[.val (.int (5 : Int32))] [(.int (5 : Int32))])) _
    refine XS.iconst X0.here hx rfl (hb hby own_d1_18) ?_
    show Steps p.tables e below (s₁.setTop (mkF m 19 #[.val (.int (5 : Int32))] [(.int (2 : Int32)), (.int (5 : Int32))])) _
    refine XS.icmpYes X0.here hx rfl (pc0 := 19) (pc' := 26) rfl (hb hby own_d1_19) rfl (feq (by decide : ¬ ((5 : Int32) = (2 : Int32)))).2 (by decide) (by decide) ?_
    show Steps p.tables e below (s₁.setTop (mkF m 26 #[.val (.int (5 : Int32))] [])) _
    refine XS.iloadN X0.here hx rfl (hb hby own_d1_26) rfl ?_
    show Steps p.tables e below (s₁.setTop (mkF m 27 #[.val (.int (5 : Int32))] [(.int (5 : Int32))])) _
    refine XS.iconst X0.here hx rfl (hb hby own_d1_27) ?_
    show Steps p.tables e below (s₁.setTop (mkF m 28 #[.val (.int (5 : Int32))] [(.int (3 : Int32)), (.int (5 : Int32))])) _
    refine XS.icmpYes X0.here hx rfl (pc0 := 28) (pc' := 35) rfl (hb hby own_d1_28) rfl (feq (by decide : ¬ ((5 : Int32) = (3 : Int32)))).2 (by decide) (by decide) ?_
    show Steps p.tables e below (s₁.setTop (mkF m 35 #[.val (.int (5 : Int32))] [])) _
    refine XS.iloadN X0.here hx rfl (hb hby own_d1_35) rfl ?_
    show Steps p.tables e below (s₁.setTop (mkF m 36 #[.val (.int (5 : Int32))] [(.int (5 : Int32))])) _
    refine XS.iconst X0.here hx rfl (hb hby own_d1_36) ?_
    show Steps p.tables e below (s₁.setTop (mkF m 37 #[.val (.int (5 : Int32))] [(.int (4 : Int32)), (.int (5 : Int32))])) _
    refine XS.icmpYes X0.here hx rfl (pc0 := 37) (pc' := 44) rfl (hb hby own_d1_37) rfl (feq (by decide : ¬ ((5 : Int32) = (4 : Int32)))).2 (by decide) (by decide) ?_
    show Steps p.tables e below (s₁.setTop (mkF m 44 #[.val (.int (5 : Int32))] [])) _
    refine XS.iloadN X0.here hx rfl (hb hby own_d1_44) rfl ?_
    show Steps p.tables e below (s₁.setTop (mkF m 45 #[.val (.int (5 : Int32))] [(.int (5 : Int32))])) _
    refine XS.iconst X0.here hx rfl (hb hby own_d1_45) ?_
    show Steps p.tables e below (s₁.setTop (mkF m 46 #[.val (.int (5 : Int32))] [(.int (5 : Int32)), (.int (5 : Int32))])) _
    refine XS.icmpNo X0.here hx rfl (hb hby own_d1_46) rfl (teq (by decide : (5 : Int32) = (5 : Int32))).2 ?_
    show Steps p.tables e below (s₁.setTop (mkF m 49 #[.val (.int (5 : Int32))] [])) _
    refine st1 _ ?_
    show Steps p.tables e below (T1.setTop (mkF m 52 #[.val (.int (5 : Int32))] [(.ref c1)])) _
    jvm_step X1.here [X1.here.top, hx, (hb hby own_d1_52), X1.method', Bd.returns, Value.isRef, FieldType.isReference]
    first | (intro acts; rw [hr _ acts rfl rfl rfl]) | rw [hr _ _ rfl rfl rfl]
    exact Steps.refl _
  · show own_Q _ h0 n0 _ T1.heap _
    exact ⟨rfl, N0, e1⟩
theorem own_d2_14 : decode prog_21_method_9_code 14 = .ok (.iconst 1, 1) := by decide +kernel
theorem own_d2_15 : decode prog_21_method_9_code 15 = .ok (.goto 4, 3) := by decide +kernel
set_option maxRecDepth 65536 in
set_option maxHeartbeats 40000000 in
theorem own_r2_5 (l : Launch) (Z : State) (a0 : Array Value) (hw : ∀ d ∈ tables_1, d.before a0 Z = true) (ws : List Jvm.Cond)  (c0 c1 c2 c3 c4 c5 c6 : Addr) (h0 : Heap) (n0 : Nat) (Z0 : n0 ≤ h0.size) (K : own_W Z h0 c0 c1 c2 c3 c4 c5 c6)  :
    MetFree l (⟨"com/example/wengao/wengao/mapping/AuditRole", "isStampedOnDelete", "()Z"⟩ : MethodName) (head1 (Jvm.Cond.code (⟨"com/example/wengao/wengao/mapping/AuditRole", "isStampedOnDelete", "()Z"⟩ : MethodName) prog_21_method_9_code 1 (some .boolean) :: ws) ({ frames := 0, cells := 0, slots := 0, locals := 0 } : Room)) (fun a U => a = #[(.ref c1)] ∧ Z.Warmed39 U.vm ∧ U.heap = h0) (fun _ _ _ _ _ => True) (fun _ U o U' => ∃ v L, o = .returned v ∧ own_Q (.int (1 : Int32)) h0 n0 v U'.heap L ∧ FrameEnd U o U' L ({ frames := 0, cells := 0, slots := 0, locals := 0 } : Room).cells ({ frames := 0, cells := 0, slots := 0, locals := 0 } : Room).slots) := by
  have K' := K
  obtain ⟨S0, E0, S1, E1, S2, E2, S3, E3, S4, E4, S5, E5, S6, E6, F0, F1, F2, F3, F4, F5, F6⟩ := K'
  refine MetFree.of_bodySF (plainFor_of_name own_pn1) hisR ?_
  intro p e s m args below meth c s₁ Bd hml0 hP hK
  obtain ⟨rfl, hZ, hh⟩ := hP
  have hx := Bd.exec
  have hby := Bd.bytes
  have hml : c.maxLocals = 1 := hml0
  have hown : s.vm.findClass "com/example/wengao/wengao/mapping/AuditRole" = some m.cls := findClass_of_methodNamed Bd.named
  have X0 : Stand p l e ({ frames := 0, cells := 0, slots := 0, locals := 0 } : Room) s m #[(.ref c1)] below meth c s₁ [] 0 0 := Stand.of_body Bd
  have e0 : s₁.heap = h0 := by rw [← hh, Bd.state]; rfl
  have N0 := Fr.nil n0
  have pre0 : ∀ t, Steps p.tables e below (s₁.setTop (mkF m 0 #[.val (.ref c1)] [])) t → Steps p.tables e below (s₁.setTop (entryFrame m #[(.ref c1)] 1)) t := fun t k => castTop (own_ef2 m c1) k
  obtain ⟨T1, X1, e1, st1⟩ := getS2 X0 hx hZ hown (host := "") (Or.inl (hw _ (List.mem_of_getElem? (i := 13) rfl))) Via.refl e0 S1 (g := (mkF m 1 #[.val (.ref c1)] [(.ref c1)])) rfl (hb hby own_d2_1)
  obtain ⟨fs, hr, hrun, hended, hW, hsame⟩ := X1.leave (v := some (.int (1 : Int32))) (fun h => by rw [Bd.returns] at h; cases h)
  refine ⟨_, _, pre0 _ ?_, hrun, hended, _, _, rfl, ?_, ⟨_, rfl⟩, hW, hsame.mono (by decide) (by decide)⟩
  · show Steps p.tables e below (s₁.setTop (mkF m 0 #[.val (.ref c1)] [])) _
    refine XS.aloadN X0.here hx rfl (hb hby own_d2_0) rfl rfl ?_
    show Steps p.tables e below (s₁.setTop (mkF m 1 #[.val (.ref c1)] [(.ref c1)])) _
    refine st1 _ ?_
    show Steps p.tables e below (T1.setTop (mkF m 4 #[.val (.ref c1)] [(.ref c1), (.ref c1)])) _
    refine Jvm.RoadKit.acmp (g := (mkF m 4 #[.val (.ref c1)] [(.ref c1), (.ref c1)])) X1 hx rfl rfl rfl (pc0 := 4) (pc' := 14) (same := true) rfl (hb hby own_d2_4) rfl (decide_eq_true rfl) (by decide) (by decide) ?_
    show Steps p.tables e below (T1.setTop (mkF m 14 #[.val (.ref c1)] [])) _
    refine XS.iconst X1.here hx rfl (hb hby own_d2_14) ?_
    show Steps p.tables e below (T1.setTop (mkF m 15 #[.val (.ref c1)] [(.int (1 : Int32))])) _
    refine XS.goto X1.here hx rfl (pc0 := 15) (pc' := 19) rfl (hb hby own_d2_15) (by decide) (by decide) ?_
    show Steps p.tables e below (T1.setTop (mkF m 19 #[.val (.ref c1)] [(.int (1 : Int32))])) _
    exact retN X1 hx (t := .boolean) Bd.returns (by simp) (hb hby own_d2_19) hr
  · show own_Q _ h0 n0 _ T1.heap _
    exact ⟨rfl, N0, e1⟩
set_option maxRecDepth 65536 in
set_option maxHeartbeats 40000000 in
theorem own_r3_5 (l : Launch) (Z : State) (a0 : Array Value) (hw : ∀ d ∈ tables_1, d.before a0 Z = true) (ws : List Jvm.Cond)  (c0 c1 c2 c3 c4 c5 c6 : Addr) (h0 : Heap) (n0 : Nat) (Z0 : n0 ≤ h0.size) (K : own_W Z h0 c0 c1 c2 c3 c4 c5 c6)  :
    MetFree l (⟨"com/example/wengao/wengao/mapping/AuditRole", "isStampedOnSave", "()Z"⟩ : MethodName) (head1 (Jvm.Cond.code (⟨"com/example/wengao/wengao/mapping/AuditRole", "isStampedOnSave", "()Z"⟩ : MethodName) prog_21_method_7_code 1 (some .boolean) :: ws) ({ frames := 1, cells := 0, slots := 0, locals := 12 } : Room)) (fun a U => a = #[(.ref c1)] ∧ Z.Warmed39 U.vm ∧ U.heap = h0) (fun _ _ _ _ _ => True) (fun _ U o U' => ∃ v L, o = .returned v ∧ own_Q (.int (0 : Int32)) h0 n0 v U'.heap L ∧ FrameEnd U o U' L ({ frames := 1, cells := 0, slots := 0, locals := 12 } : Room).cells ({ frames := 1, cells := 0, slots := 0, locals := 12 } : Room).slots) := by
  have K' := K
  obtain ⟨S0, E0, S1, E1, S2, E2, S3, E3, S4, E4, S5, E5, S6, E6, F0, F1, F2, F3, F4, F5, F6⟩ := K'
  have ne_1_0 : ¬ (c1 = c0) := (Fld.ne F1 F0 (fun q => absurd (Value.int.inj q) (by decide)))
  refine MetFree.of_bodySF (plainFor_of_name own_pn1) hisR ?_
  intro p e s m args below meth c s₁ Bd hml0 hP hK
  obtain ⟨rfl, hZ, hh⟩ := hP
  have hx := Bd.exec
  have hby := Bd.bytes
  have hml : c.maxLocals = 1 := hml0
  have hown : s.vm.findClass "com/example/wengao/wengao/mapping/AuditRole" = some m.cls := findClass_of_methodNamed Bd.named
  have X0 : Stand p l e ({ frames := 1, cells := 0, slots := 0, locals := 12 } : Room) s m #[(.ref c1)] below meth c s₁ [] 0 0 := Stand.of_body Bd
  have e0 : s₁.heap = h0 := by rw [← hh, Bd.state]; rfl
  have N0 := Fr.nil n0
  have pre0 : ∀ t, Steps p.tables e below (s₁.setTop (mkF m 0 #[.val (.ref c1)] [])) t → Steps p.tables e below (s₁.setTop (entryFrame m #[(.ref c1)] 1)) t := fun t k => castTop (own_ef3 m c1) k
  obtain ⟨T1, X1, e1, st1⟩ := getS2 X0 hx hZ hown (host := "") (Or.inl (hw _ (List.mem_of_getElem? (i := 22) rfl))) Via.refl e0 S0 (g := (mkF m 1 #[.val (.ref c1)] [(.ref c1)])) rfl (hb hby own_d3_1)
  obtain ⟨cq2, kq2, q2a, q2b, q2c⟩ := isOf hZ e1 E1
  obtain ⟨_, _, ⟨T2, L2, k2, n2⟩, -, X2, ⟨Lc2, hQ2, l2, y2, z2⟩, st2⟩ := X1.virtualBack hx (y := (⟨"com/example/wengao/wengao/mapping/AuditRole", "isStampedOnDelete", "()Z"⟩ : MethodName)) (z := (⟨"com/example/wengao/wengao/mapping/AuditRole", "isStampedOnDelete", "()Z"⟩ : MethodName)) hown (mvT hZ (hw _ (List.mem_of_getElem? (i := 25) rfl))) (mvT hZ (hw _ (List.mem_of_getElem? (i := 9) rfl))) (notFace_of_selects (args := #[]) (mvT hZ (hw _ (List.mem_of_getElem? (i := 11) rfl)))) (mvT hZ (hw _ (List.mem_of_getElem? (i := 11) rfl))) (mvT hZ (hw _ (List.mem_of_getElem? (i := 10) rfl))) (by decide) (backOf (W := 0) (own_r2_5 l Z a0 hw [] c0 c1 c2 c3 c4 c5 c6 h0 n0 Z0 K) hZ (hw _ (List.mem_of_getElem? (i := 12) rfl)) (hw _ (List.mem_of_getElem? (i := 6) rfl)) (by decide) (by decide)) q2a q2c (g := (mkF m 8 #[.val (.ref c1)] [(.ref c1)])) rfl (by rw [hml]; rfl) (Steps.refl _) (argsL := []) (rest := []) (lenOf own_pd1 rfl) rfl (by show 2 * 0 + _ ≤ _; exact Nat.le_of_eq rfl) (hb hby own_d3_8) (fun _ _ => ⟨rfl, e1, (by decide : 0 + 0 ≤ _), (by decide : 0 + 0 ≤ _)⟩)
  dsimp only [Pt.U, Pt.locs, Pt.cells, Pt.slots] at X2 l2 y2 z2 st2 hQ2
  subst l2 y2 z2
  obtain ⟨rfl, N2q, e2⟩ := hQ2
  have N2 := Fr.app N0 N2q
  obtain ⟨fs, hr, hrun, hended, hW, hsame⟩ := X2.leave (v := some (.int (0 : Int32))) (fun h => by rw [Bd.returns] at h; cases h)
  refine ⟨_, _, pre0 _ ?_, hrun, hended, _, _, rfl, ?_, ⟨_, rfl⟩, hW, hsame.mono (by decide) (by decide)⟩
  · show Steps p.tables e below (s₁.setTop (mkF m 0 #[.val (.ref c1)] [])) _
    refine XS.aloadN X0.here hx rfl (hb hby own_d3_0) rfl rfl ?_
    show Steps p.tables e below (s₁.setTop (mkF m 1 #[.val (.ref c1)] [(.ref c1)])) _
    refine st1 _ ?_
    show Steps p.tables e below (T1.setTop (mkF m 4 #[.val (.ref c1)] [(.ref c0), (.ref c1)])) _
    refine Jvm.RoadKit.acmp (g := (mkF m 4 #[.val (.ref c1)] [(.ref c0), (.ref c1)])) X1 hx rfl rfl rfl (pc0 := 4) (pc' := 7) (same := false) rfl (hb hby own_d3_4) rfl (decide_eq_false fun q => ne_1_0 (Value.ref.inj q)) (by decide) (by decide) ?_
    show Steps p.tables e below (T1.setTop (mkF m 7 #[.val (.ref c1)] [])) _
    refine XS.aloadN X1.here hx rfl (hb hby own_d3_7) rfl rfl ?_
    show Steps p.tables e below (T1.setTop (mkF m 8 #[.val (.ref c1)] [(.ref c1)])) _
    refine st2.trans ?_
    show Steps p.tables e below (T2.setTop (mkF m 11 #[.val (.ref c1)] [(.int (1 : Int32))])) _
    refine XS.ifYes X2.here hx rfl (pc0 := 11) (pc' := 18) rfl (hb hby own_d3_11) rfl ((if0 _ _).trans (feq (by decide : ¬ ((1 : Int32) = (0 : Int32)))).2) (by decide) (by decide) ?_
    show Steps p.tables e below (T2.setTop (mkF m 18 #[.val (.ref c1)] [])) _
    refine XS.iconst X2.here hx rfl (hb hby own_d3_18) ?_
    show Steps p.tables e below (T2.setTop (mkF m 19 #[.val (.ref c1)] [(.int (0 : Int32))])) _
    exact retN X2 hx (t := .boolean) Bd.returns (by simp) (hb hby own_d3_19) hr
  · show own_Q _ h0 n0 _ T2.heap _
    exact ⟨rfl, N2, e2⟩
set_option maxRecDepth 65536 in
set_option maxHeartbeats 40000000 in
theorem own_r0_5 (l : Launch) (Z : State) (a0 : Array Value) (hw : ∀ d ∈ tables_1, d.before a0 Z = true) (ws : List Jvm.Cond) (p0 : Int32) (c0 c1 c2 c3 c4 c5 c6 : Addr) (h0 : Heap) (n0 : Nat) (Z0 : n0 ≤ h0.size) (K : own_W Z h0 c0 c1 c2 c3 c4 c5 c6) (hk0 : ((p0 &&& (2147483647 : Int32)) % (7 : Int32)) = (5 : Int32)) :
    MetFree l x (head1 (Jvm.Cond.code x code maxLocals ret :: ws) room_1) (fun a U => a = #[(.int p0)] ∧ Z.Warmed39 U.vm ∧ U.heap = h0) (fun _ _ _ _ _ => True) (fun _ U o U' => ∃ v L, o = .returned v ∧ own_Q (.int (1 : Int32)) h0 n0 v U'.heap L ∧ FrameEnd U o U' L room_1.cells room_1.slots) := by
  have K' := K
  obtain ⟨S0, E0, S1, E1, S2, E2, S3, E3, S4, E4, S5, E5, S6, E6, F0, F1, F2, F3, F4, F5, F6⟩ := K'
  refine MetFree.of_bodySF (plainFor_of_name own_pn0) hisR ?_
  intro p e s m args below meth c s₁ Bd hml0 hP hK
  obtain ⟨rfl, hZ, hh⟩ := hP
  have hx := Bd.exec
  have hby := Bd.bytes
  have hml : c.maxLocals = 8 := hml0
  have hown : s.vm.findClass "com/example/wengao/wengao/mapping/AuditRoleIsStampedOnDeletePinLaw" = some m.cls := findClass_of_methodNamed Bd.named
  have X0 : Stand p l e room_1 s m #[(.int p0)] below meth c s₁ [] 0 0 := Stand.of_body Bd
  have e0 : s₁.heap = h0 := by rw [← hh, Bd.state]; rfl
  have N0 := Fr.nil n0
  have pre0 : ∀ t, Steps p.tables e below (s₁.setTop (mkF m 0 #[.val (.int p0), .unset, .unset, .unset, .unset, .unset, .unset, .unset] [])) t → Steps p.tables e below (s₁.setTop (entryFrame m #[(.int p0)] maxLocals)) t := fun t k => castTop (own_ef0 m p0) k
  obtain ⟨_, _, ⟨T1, L1, k1, n1⟩, -, X1, ⟨Lc1, hQ1, l1, y1, z1⟩, st1⟩ := Jvm.LawKit.callS X0 hx (y := (⟨"com/example/wengao/wengao/mapping/AuditRoleIsStampedOnDeletePinLaw", "pick", "(I)Lcom/example/wengao/wengao/mapping/AuditRole;"⟩ : MethodName)) hown (mvT hZ (hw _ (List.mem_of_getElem? (i := 1) rfl))) (mvT hZ (hw _ (List.mem_of_getElem? (i := 2) rfl))) (mvT hZ (hw _ (List.mem_of_getElem? (i := 3) rfl))) (mvT hZ (hw _ (List.mem_of_getElem? (i := 4) rfl))) (by decide) (backOf (W := 0) (own_r1_5 l Z a0 hw [] c0 c1 c2 c3 c4 c5 c6 h0 n0 Z0 K) hZ (hw _ (List.mem_of_getElem? (i := 4) rfl)) (hw _ (List.mem_of_getElem? (i := 3) rfl)) (by decide) (by decide)) (g := (mkF m 9 #[.val (.int p0), .val (.int (5 : Int32)), .unset, .unset, .unset, .unset, .unset, .unset] [(.int (5 : Int32))])) rfl (by rw [hml]; rfl) (argsL := [(.int (5 : Int32))]) (rest := []) (lenOf own_pd0 rfl) rfl (by show 2 * 0 + _ ≤ _; exact Nat.le_of_eq rfl) (hb hby at_9) (fun _ _ => ⟨rfl, e0, (by decide : 0 + 0 ≤ _), (by decide : 0 + 0 ≤ _)⟩)
  dsimp only [Pt.U, Pt.locs, Pt.cells, Pt.slots] at X1 l1 y1 z1 st1 hQ1
  subst l1 y1 z1
  obtain ⟨rfl, N1q, e1⟩ := hQ1
  have N1 := Fr.app N0 N1q
  obtain ⟨cq2, kq2, q2a, q2b, q2c⟩ := isOf hZ e1 E1
  obtain ⟨_, _, ⟨T2, L2, k2, n2⟩, -, X2, ⟨Lc2, hQ2, l2, y2, z2⟩, st2⟩ := X1.virtualBack hx (y := (⟨"com/example/wengao/wengao/mapping/AuditRole", "isStampedOnDelete", "()Z"⟩ : MethodName)) (z := (⟨"com/example/wengao/wengao/mapping/AuditRole", "isStampedOnDelete", "()Z"⟩ : MethodName)) hown (mvT hZ (hw _ (List.mem_of_getElem? (i := 8) rfl))) (mvT hZ (hw _ (List.mem_of_getElem? (i := 9) rfl))) (notFace_of_selects (args := #[]) (mvT hZ (hw _ (List.mem_of_getElem? (i := 11) rfl)))) (mvT hZ (hw _ (List.mem_of_getElem? (i := 11) rfl))) (mvT hZ (hw _ (List.mem_of_getElem? (i := 10) rfl))) (by decide) (backOf (W := 0) (own_r2_5 l Z a0 hw [] c0 c1 c2 c3 c4 c5 c6 h0 n0 Z0 K) hZ (hw _ (List.mem_of_getElem? (i := 12) rfl)) (hw _ (List.mem_of_getElem? (i := 6) rfl)) (by decide) (by decide)) q2a q2c (g := (mkF m 31 #[.val (.int p0), .val (.int (5 : Int32)), .val (.ref c1), .val (.int (1 : Int32)), .unset, .unset, .unset, .unset] [(.ref c1)])) rfl (by rw [hml]; rfl) (Steps.refl _) (argsL := []) (rest := []) (lenOf own_pd1 rfl) rfl (by show 2 * 0 + _ ≤ _; exact Nat.le_of_eq rfl) (hb hby at_31) (fun _ _ => ⟨rfl, e1, (by decide : 0 + 0 ≤ _), (by decide : 0 + 0 ≤ _)⟩)
  dsimp only [Pt.U, Pt.locs, Pt.cells, Pt.slots] at X2 l2 y2 z2 st2 hQ2
  subst l2 y2 z2
  obtain ⟨rfl, N2q, e2⟩ := hQ2
  have N2 := Fr.app N1 N2q
  obtain ⟨cq3, kq3, q3a, q3b, q3c⟩ := isOf hZ e2 E1
  obtain ⟨_, _, ⟨T3, L3, k3, n3⟩, -, X3, ⟨Lc3, hQ3, l3, y3, z3⟩, st3⟩ := X2.virtualBack hx (y := (⟨"com/example/wengao/wengao/mapping/AuditRole", "isStampedOnSave", "()Z"⟩ : MethodName)) (z := (⟨"com/example/wengao/wengao/mapping/AuditRole", "isStampedOnSave", "()Z"⟩ : MethodName)) hown (mvT hZ (hw _ (List.mem_of_getElem? (i := 17) rfl))) (mvT hZ (hw _ (List.mem_of_getElem? (i := 18) rfl))) (notFace_of_selects (args := #[]) (mvT hZ (hw _ (List.mem_of_getElem? (i := 20) rfl)))) (mvT hZ (hw _ (List.mem_of_getElem? (i := 20) rfl))) (mvT hZ (hw _ (List.mem_of_getElem? (i := 19) rfl))) (by decide) (backOf (W := 0) (own_r3_5 l Z a0 hw [] c0 c1 c2 c3 c4 c5 c6 h0 n0 Z0 K) hZ (hw _ (List.mem_of_getElem? (i := 21) rfl)) (hw _ (List.mem_of_getElem? (i := 6) rfl)) (by decide) (by decide)) q3a q3c (g := (mkF m 56 #[.val (.int p0), .val (.int (5 : Int32)), .val (.ref c1), .val (.int (1 : Int32)), .val (.int (1 : Int32)), .val (.int (0 : Int32)), .unset, .unset] [(.ref c1)])) rfl (by rw [hml]; rfl) (Steps.refl _) (argsL := []) (rest := []) (lenOf own_pd1 rfl) rfl (by show 2 * 0 + _ ≤ _; exact Nat.le_of_eq rfl) (hb hby at_56) (fun _ _ => ⟨rfl, e2, (by decide : 0 + 0 ≤ _), (by decide : 0 + 0 ≤ _)⟩)
  dsimp only [Pt.U, Pt.locs, Pt.cells, Pt.slots] at X3 l3 y3 z3 st3 hQ3
  subst l3 y3 z3
  obtain ⟨rfl, N3q, e3⟩ := hQ3
  have N3 := Fr.app N2 N3q
  obtain ⟨fs, hr, hrun, hended, hW, hsame⟩ := X3.leave (v := some (.int (1 : Int32))) (fun h => by rw [Bd.returns] at h; cases h)
  refine ⟨_, _, pre0 _ ?_, hrun, hended, _, _, rfl, ?_, ⟨_, rfl⟩, hW, hsame.mono (by decide) (by decide)⟩
  · show Steps p.tables e below (s₁.setTop (mkF m 0 #[.val (.int p0), .unset, .unset, .unset, .unset, .unset, .unset, .unset] [])) _
    refine XS.iloadN X0.here hx rfl (hb hby at_0) rfl ?_
    show Steps p.tables e below (s₁.setTop (mkF m 1 #[.val (.int p0), .unset, .unset, .unset, .unset, .unset, .unset, .unset] [(.int p0)])) _
    refine X0.ldcInt hx hown (mvT hZ (hw _ (List.mem_of_getElem? (i := 0) rfl))) (g := (mkF m 1 #[.val (.int p0), .unset, .unset, .unset, .unset, .unset, .unset, .unset] [(.int p0)])) rfl (hb hby at_1) _ ?_
    show Steps p.tables e below (s₁.setTop (mkF m 3 #[.val (.int p0), .unset, .unset, .unset, .unset, .unset, .unset, .unset] [(.int (2147483647 : Int32)), (.int p0)])) _
    refine XS.iand X0.here hx rfl (hb hby at_3) rfl ?_
    show Steps p.tables e below (s₁.setTop (mkF m 4 #[.val (.int p0), .unset, .unset, .unset, .unset, .unset, .unset, .unset] [(.int (p0 &&& (2147483647 : Int32)))])) _
    refine XS.bipush X0.here hx rfl (hb hby at_4) ?_
    show Steps p.tables e below (s₁.setTop (mkF m 6 #[.val (.int p0), .unset, .unset, .unset, .unset, .unset, .unset, .unset] [(.int (7 : Int32)), (.int (p0 &&& (2147483647 : Int32)))])) _
    refine iremM X0 hx rfl (hb hby at_6) rfl (by decide) ?_
    show Steps p.tables e below (s₁.setTop (mkF m 7 #[.val (.int p0), .unset, .unset, .unset, .unset, .unset, .unset, .unset] [(.int ((p0 &&& (2147483647 : Int32)) % (7 : Int32)))])) _
    rw [hk0]
    show Steps p.tables e below (s₁.setTop (mkF m 7 #[.val (.int p0), .unset, .unset, .unset, .unset, .unset, .unset, .unset] [(.int (5 : Int32))])) _
    refine XS.istoreN X0.here hx rfl (hb hby at_7) rfl (l' := #[.val (.int p0), .val (.int (5 : Int32)), .unset, .unset, .unset, .unset, .unset, .unset]) rfl ?_
    show Steps p.tables e below (s₁.setTop (mkF m 8 #[.val (.int p0), .val (.int (5 : Int32)), .unset, .unset, .unset, .unset, .unset, .unset] [])) _
    refine XS.iloadN X0.here hx rfl (hb hby at_8) rfl ?_
    show Steps p.tables e below (s₁.setTop (mkF m 9 #[.val (.int p0), .val (.int (5 : Int32)), .unset, .unset, .unset, .unset, .unset, .unset] [(.int (5 : Int32))])) _
    refine st1 _ ?_
    show Steps p.tables e below (T1.setTop (mkF m 12 #[.val (.int p0), .val (.int (5 : Int32)), .unset, .unset, .unset, .unset, .unset, .unset] [(.ref c1)])) _
    refine XS.astoreN X1.here hx rfl (hb hby at_12) rfl rfl (l' := #[.val (.int p0), .val (.int (5 : Int32)), .val (.ref c1), .unset, .unset, .unset, .unset, .unset]) rfl ?_
    show Steps p.tables e below (T1.setTop (mkF m 13 #[.val (.int p0), .val (.int (5 : Int32)), .val (.ref c1), .unset, .unset, .unset, .unset, .unset] [])) _
    refine XS.iloadN X1.here hx rfl (hb hby at_13) rfl ?_
    show Steps p.tables e below (T1.setTop (mkF m 14 #[.val (.int p0), .val (.int (5 : Int32)), .val (.ref c1), .unset, .unset, .unset, .unset, .unset] [(.int (5 : Int32))])) _
    refine XS.iconst X1.here hx rfl (hb hby at_14) ?_
    show Steps p.tables e below (T1.setTop (mkF m 15 #[.val (.int p0), .val (.int (5 : Int32)), .val (.ref c1), .unset, .unset, .unset, .unset, .unset] [(.int (5 : Int32)), (.int (5 : Int32))])) _
    refine XS.icmpYes X1.here hx rfl (pc0 := 15) (pc' := 24) rfl (hb hby at_15) rfl (teq (by decide : (5 : Int32) = (5 : Int32))).1 (by decide) (by decide) ?_
    show Steps p.tables e below (T1.setTop (mkF m 24 #[.val (.int p0), .val (.int (5 : Int32)), .val (.ref c1), .unset, .unset, .unset, .unset, .unset] [])) _
    refine XS.iconst X1.here hx rfl (hb hby at_24) ?_
    show Steps p.tables e below (T1.setTop (mkF m 25 #[.val (.int p0), .val (.int (5 : Int32)), .val (.ref c1), .unset, .unset, .unset, .unset, .unset] [(.int (1 : Int32))])) _
    refine XS.goto X1.here hx rfl (pc0 := 25) (pc' := 29) rfl (hb hby at_25) (by decide) (by decide) ?_
    show Steps p.tables e below (T1.setTop (mkF m 29 #[.val (.int p0), .val (.int (5 : Int32)), .val (.ref c1), .unset, .unset, .unset, .unset, .unset] [(.int (1 : Int32))])) _
    refine XS.istoreN X1.here hx rfl (hb hby at_29) rfl (l' := #[.val (.int p0), .val (.int (5 : Int32)), .val (.ref c1), .val (.int (1 : Int32)), .unset, .unset, .unset, .unset]) rfl ?_
    show Steps p.tables e below (T1.setTop (mkF m 30 #[.val (.int p0), .val (.int (5 : Int32)), .val (.ref c1), .val (.int (1 : Int32)), .unset, .unset, .unset, .unset] [])) _
    refine XS.aloadN X1.here hx rfl (hb hby at_30) rfl rfl ?_
    show Steps p.tables e below (T1.setTop (mkF m 31 #[.val (.int p0), .val (.int (5 : Int32)), .val (.ref c1), .val (.int (1 : Int32)), .unset, .unset, .unset, .unset] [(.ref c1)])) _
    refine st2.trans ?_
    show Steps p.tables e below (T2.setTop (mkF m 34 #[.val (.int p0), .val (.int (5 : Int32)), .val (.ref c1), .val (.int (1 : Int32)), .unset, .unset, .unset, .unset] [(.int (1 : Int32))])) _
    refine XS.istore X2.here hx rfl (hb hby at_34) rfl (l' := #[.val (.int p0), .val (.int (5 : Int32)), .val (.ref c1), .val (.int (1 : Int32)), .val (.int (1 : Int32)), .unset, .unset, .unset]) rfl ?_
    show Steps p.tables e below (T2.setTop (mkF m 36 #[.val (.int p0), .val (.int (5 : Int32)), .val (.ref c1), .val (.int (1 : Int32)), .val (.int (1 : Int32)), .unset, .unset, .unset] [])) _
    refine XS.iload X2.here hx rfl (hb hby at_36) rfl ?_
    show Steps p.tables e below (T2.setTop (mkF m 38 #[.val (.int p0), .val (.int (5 : Int32)), .val (.ref c1), .val (.int (1 : Int32)), .val (.int (1 : Int32)), .unset, .unset, .unset] [(.int (1 : Int32))])) _
    refine XS.iloadN X2.here hx rfl (hb hby at_38) rfl ?_
    show Steps p.tables e below (T2.setTop (mkF m 39 #[.val (.int p0), .val (.int (5 : Int32)), .val (.ref c1), .val (.int (1 : Int32)), .val (.int (1 : Int32)), .unset, .unset, .unset] [(.int (1 : Int32)), (.int (1 : Int32))])) _
    refine XS.icmpYes X2.here hx rfl (pc0 := 39) (pc' := 44) rfl (hb hby at_39) rfl (teq (by decide : (1 : Int32) = (1 : Int32))).1 (by decide) (by decide) ?_
    show Steps p.tables e below (T2.setTop (mkF m 44 #[.val (.int p0), .val (.int (5 : Int32)), .val (.ref c1), .val (.int (1 : Int32)), .val (.int (1 : Int32)), .unset, .unset, .unset] [])) _
    refine XS.iloadN X2.here hx rfl (hb hby at_44) rfl ?_
    show Steps p.tables e below (T2.setTop (mkF m 45 #[.val (.int p0), .val (.int (5 : Int32)), .val (.ref c1), .val (.int (1 : Int32)), .val (.int (1 : Int32)), .unset, .unset, .unset] [(.int (5 : Int32))])) _
    refine XS.ifYes X2.here hx rfl (pc0 := 45) (pc' := 52) rfl (hb hby at_45) rfl ((if0 _ _).trans (feq (by decide : ¬ ((5 : Int32) = (0 : Int32)))).2) (by decide) (by decide) ?_
    show Steps p.tables e below (T2.setTop (mkF m 52 #[.val (.int p0), .val (.int (5 : Int32)), .val (.ref c1), .val (.int (1 : Int32)), .val (.int (1 : Int32)), .unset, .unset, .unset] [])) _
    refine XS.iconst X2.here hx rfl (hb hby at_52) ?_
    show Steps p.tables e below (T2.setTop (mkF m 53 #[.val (.int p0), .val (.int (5 : Int32)), .val (.ref c1), .val (.int (1 : Int32)), .val (.int (1 : Int32)), .unset, .unset, .unset] [(.int (0 : Int32))])) _
    refine XS.istore X2.here hx rfl (hb hby at_53) rfl (l' := #[.val (.int p0), .val (.int (5 : Int32)), .val (.ref c1), .val (.int (1 : Int32)), .val (.int (1 : Int32)), .val (.int (0 : Int32)), .unset, .unset]) rfl ?_
    show Steps p.tables e below (T2.setTop (mkF m 55 #[.val (.int p0), .val (.int (5 : Int32)), .val (.ref c1), .val (.int (1 : Int32)), .val (.int (1 : Int32)), .val (.int (0 : Int32)), .unset, .unset] [])) _
    refine XS.aloadN X2.here hx rfl (hb hby at_55) rfl rfl ?_
    show Steps p.tables e below (T2.setTop (mkF m 56 #[.val (.int p0), .val (.int (5 : Int32)), .val (.ref c1), .val (.int (1 : Int32)), .val (.int (1 : Int32)), .val (.int (0 : Int32)), .unset, .unset] [(.ref c1)])) _
    refine st3.trans ?_
    show Steps p.tables e below (T3.setTop (mkF m 59 #[.val (.int p0), .val (.int (5 : Int32)), .val (.ref c1), .val (.int (1 : Int32)), .val (.int (1 : Int32)), .val (.int (0 : Int32)), .unset, .unset] [(.int (0 : Int32))])) _
    refine XS.istore X3.here hx rfl (hb hby at_59) rfl (l' := #[.val (.int p0), .val (.int (5 : Int32)), .val (.ref c1), .val (.int (1 : Int32)), .val (.int (1 : Int32)), .val (.int (0 : Int32)), .val (.int (0 : Int32)), .unset]) rfl ?_
    show Steps p.tables e below (T3.setTop (mkF m 61 #[.val (.int p0), .val (.int (5 : Int32)), .val (.ref c1), .val (.int (1 : Int32)), .val (.int (1 : Int32)), .val (.int (0 : Int32)), .val (.int (0 : Int32)), .unset] [])) _
    refine XS.iload X3.here hx rfl (hb hby at_61) rfl ?_
    show Steps p.tables e below (T3.setTop (mkF m 63 #[.val (.int p0), .val (.int (5 : Int32)), .val (.ref c1), .val (.int (1 : Int32)), .val (.int (1 : Int32)), .val (.int (0 : Int32)), .val (.int (0 : Int32)), .unset] [(.int (0 : Int32))])) _
    refine XS.ifYes X3.here hx rfl (pc0 := 63) (pc' := 70) rfl (hb hby at_63) rfl ((if0 _ _).trans (teq (by decide : (0 : Int32) = (0 : Int32))).1) (by decide) (by decide) ?_
    show Steps p.tables e below (T3.setTop (mkF m 70 #[.val (.int p0), .val (.int (5 : Int32)), .val (.ref c1), .val (.int (1 : Int32)), .val (.int (1 : Int32)), .val (.int (0 : Int32)), .val (.int (0 : Int32)), .unset] [])) _
    refine XS.iconst X3.here hx rfl (hb hby at_70) ?_
    show Steps p.tables e below (T3.setTop (mkF m 71 #[.val (.int p0), .val (.int (5 : Int32)), .val (.ref c1), .val (.int (1 : Int32)), .val (.int (1 : Int32)), .val (.int (0 : Int32)), .val (.int (0 : Int32)), .unset] [(.int (0 : Int32))])) _
    refine XS.iload X3.here hx rfl (hb hby at_71) rfl ?_
    show Steps p.tables e below (T3.setTop (mkF m 73 #[.val (.int p0), .val (.int (5 : Int32)), .val (.ref c1), .val (.int (1 : Int32)), .val (.int (1 : Int32)), .val (.int (0 : Int32)), .val (.int (0 : Int32)), .unset] [(.int (0 : Int32)), (.int (0 : Int32))])) _
    refine XS.ifYes X3.here hx rfl (pc0 := 73) (pc' := 80) rfl (hb hby at_73) rfl ((if0 _ _).trans (teq (by decide : (0 : Int32) = (0 : Int32))).1) (by decide) (by decide) ?_
    show Steps p.tables e below (T3.setTop (mkF m 80 #[.val (.int p0), .val (.int (5 : Int32)), .val (.ref c1), .val (.int (1 : Int32)), .val (.int (1 : Int32)), .val (.int (0 : Int32)), .val (.int (0 : Int32)), .unset] [(.int (0 : Int32))])) _
    refine XS.iconst X3.here hx rfl (hb hby at_80) ?_
    show Steps p.tables e below (T3.setTop (mkF m 81 #[.val (.int p0), .val (.int (5 : Int32)), .val (.ref c1), .val (.int (1 : Int32)), .val (.int (1 : Int32)), .val (.int (0 : Int32)), .val (.int (0 : Int32)), .unset] [(.int (0 : Int32)), (.int (0 : Int32))])) _
    refine XS.iadd X3.here hx rfl (hb hby at_81) rfl ?_
    show Steps p.tables e below (T3.setTop (mkF m 82 #[.val (.int p0), .val (.int (5 : Int32)), .val (.ref c1), .val (.int (1 : Int32)), .val (.int (1 : Int32)), .val (.int (0 : Int32)), .val (.int (0 : Int32)), .unset] [(.int ((0 : Int32) + (0 : Int32)))])) _
    refine XS.iload X3.here hx rfl (hb hby at_82) rfl ?_
    show Steps p.tables e below (T3.setTop (mkF m 84 #[.val (.int p0), .val (.int (5 : Int32)), .val (.ref c1), .val (.int (1 : Int32)), .val (.int (1 : Int32)), .val (.int (0 : Int32)), .val (.int (0 : Int32)), .unset] [(.int (1 : Int32)), (.int ((0 : Int32) + (0 : Int32)))])) _
    refine XS.ifNo X3.here hx rfl (hb hby at_84) rfl ((if0 _ _).trans (feq (by decide : ¬ ((1 : Int32) = (0 : Int32)))).1) ?_
    show Steps p.tables e below (T3.setTop (mkF m 87 #[.val (.int p0), .val (.int (5 : Int32)), .val (.ref c1), .val (.int (1 : Int32)), .val (.int (1 : Int32)), .val (.int (0 : Int32)), .val (.int (0 : Int32)), .unset] [(.int ((0 : Int32) + (0 : Int32)))])) _
    refine XS.iconst X3.here hx rfl (hb hby at_87) ?_
    show Steps p.tables e below (T3.setTop (mkF m 88 #[.val (.int p0), .val (.int (5 : Int32)), .val (.ref c1), .val (.int (1 : Int32)), .val (.int (1 : Int32)), .val (.int (0 : Int32)), .val (.int (0 : Int32)), .unset] [(.int (1 : Int32)), (.int ((0 : Int32) + (0 : Int32)))])) _
    refine XS.goto X3.here hx rfl (pc0 := 88) (pc' := 92) rfl (hb hby at_88) (by decide) (by decide) ?_
    show Steps p.tables e below (T3.setTop (mkF m 92 #[.val (.int p0), .val (.int (5 : Int32)), .val (.ref c1), .val (.int (1 : Int32)), .val (.int (1 : Int32)), .val (.int (0 : Int32)), .val (.int (0 : Int32)), .unset] [(.int (1 : Int32)), (.int ((0 : Int32) + (0 : Int32)))])) _
    refine XS.iadd X3.here hx rfl (hb hby at_92) rfl ?_
    show Steps p.tables e below (T3.setTop (mkF m 93 #[.val (.int p0), .val (.int (5 : Int32)), .val (.ref c1), .val (.int (1 : Int32)), .val (.int (1 : Int32)), .val (.int (0 : Int32)), .val (.int (0 : Int32)), .unset] [(.int (((0 : Int32) + (0 : Int32)) + (1 : Int32)))])) _
    refine XS.istore X3.here hx rfl (hb hby at_93) rfl (l' := #[.val (.int p0), .val (.int (5 : Int32)), .val (.ref c1), .val (.int (1 : Int32)), .val (.int (1 : Int32)), .val (.int (0 : Int32)), .val (.int (0 : Int32)), .val (.int (((0 : Int32) + (0 : Int32)) + (1 : Int32)))]) rfl ?_
    show Steps p.tables e below (T3.setTop (mkF m 95 #[.val (.int p0), .val (.int (5 : Int32)), .val (.ref c1), .val (.int (1 : Int32)), .val (.int (1 : Int32)), .val (.int (0 : Int32)), .val (.int (0 : Int32)), .val (.int (((0 : Int32) + (0 : Int32)) + (1 : Int32)))] [])) _
    refine XS.iload X3.here hx rfl (hb hby at_95) rfl ?_
    show Steps p.tables e below (T3.setTop (mkF m 97 #[.val (.int p0), .val (.int (5 : Int32)), .val (.ref c1), .val (.int (1 : Int32)), .val (.int (1 : Int32)), .val (.int (0 : Int32)), .val (.int (0 : Int32)), .val (.int (((0 : Int32) + (0 : Int32)) + (1 : Int32)))] [(.int (((0 : Int32) + (0 : Int32)) + (1 : Int32)))])) _
    refine XS.iconst X3.here hx rfl (hb hby at_97) ?_
    show Steps p.tables e below (T3.setTop (mkF m 98 #[.val (.int p0), .val (.int (5 : Int32)), .val (.ref c1), .val (.int (1 : Int32)), .val (.int (1 : Int32)), .val (.int (0 : Int32)), .val (.int (0 : Int32)), .val (.int (((0 : Int32) + (0 : Int32)) + (1 : Int32)))] [(.int (1 : Int32)), (.int (((0 : Int32) + (0 : Int32)) + (1 : Int32)))])) _
    refine XS.icmpNo X3.here hx rfl (hb hby at_98) rfl (teq (by decide : (((0 : Int32) + (0 : Int32)) + (1 : Int32)) = (1 : Int32))).2 ?_
    show Steps p.tables e below (T3.setTop (mkF m 101 #[.val (.int p0), .val (.int (5 : Int32)), .val (.ref c1), .val (.int (1 : Int32)), .val (.int (1 : Int32)), .val (.int (0 : Int32)), .val (.int (0 : Int32)), .val (.int (((0 : Int32) + (0 : Int32)) + (1 : Int32)))] [])) _
    refine XS.iconst X3.here hx rfl (hb hby at_101) ?_
    show Steps p.tables e below (T3.setTop (mkF m 102 #[.val (.int p0), .val (.int (5 : Int32)), .val (.ref c1), .val (.int (1 : Int32)), .val (.int (1 : Int32)), .val (.int (0 : Int32)), .val (.int (0 : Int32)), .val (.int (((0 : Int32) + (0 : Int32)) + (1 : Int32)))] [(.int (1 : Int32))])) _
    refine XS.goto X3.here hx rfl (pc0 := 102) (pc' := 106) rfl (hb hby at_102) (by decide) (by decide) ?_
    show Steps p.tables e below (T3.setTop (mkF m 106 #[.val (.int p0), .val (.int (5 : Int32)), .val (.ref c1), .val (.int (1 : Int32)), .val (.int (1 : Int32)), .val (.int (0 : Int32)), .val (.int (0 : Int32)), .val (.int (((0 : Int32) + (0 : Int32)) + (1 : Int32)))] [(.int (1 : Int32))])) _
    exact retN X3 hx (t := .boolean) Bd.returns (by simp) (hb hby at_106) hr
  · show own_Q _ h0 n0 _ T3.heap _
    exact ⟨rfl, N3, e3⟩
theorem own_d1_53 : decode method_3_code 53 = .ok (.getstatic 42, 3) := by decide +kernel
theorem own_d1_56 : decode method_3_code 56 = .ok (.areturn, 1) := by decide +kernel
set_option maxRecDepth 65536 in
set_option maxHeartbeats 40000000 in
theorem own_r1_6 (l : Launch) (Z : State) (a0 : Array Value) (hw : ∀ d ∈ tables_1, d.before a0 Z = true) (ws : List Jvm.Cond)  (c0 c1 c2 c3 c4 c5 c6 : Addr) (h0 : Heap) (n0 : Nat) (Z0 : n0 ≤ h0.size) (K : own_W Z h0 c0 c1 c2 c3 c4 c5 c6)  :
    MetFree l (⟨"com/example/wengao/wengao/mapping/AuditRoleIsStampedOnDeletePinLaw", "pick", "(I)Lcom/example/wengao/wengao/mapping/AuditRole;"⟩ : MethodName) (head1 (Jvm.Cond.code (⟨"com/example/wengao/wengao/mapping/AuditRoleIsStampedOnDeletePinLaw", "pick", "(I)Lcom/example/wengao/wengao/mapping/AuditRole;"⟩ : MethodName) method_3_code 1 (some (.object "com/example/wengao/wengao/mapping/AuditRole")) :: ws) ({ frames := 0, cells := 0, slots := 0, locals := 0 } : Room)) (fun a U => a = #[(.int (6 : Int32))] ∧ Z.Warmed39 U.vm ∧ U.heap = h0) (fun _ _ _ _ _ => True) (fun _ U o U' => ∃ v L, o = .returned v ∧ own_Q (.ref c2) h0 n0 v U'.heap L ∧ FrameEnd U o U' L ({ frames := 0, cells := 0, slots := 0, locals := 0 } : Room).cells ({ frames := 0, cells := 0, slots := 0, locals := 0 } : Room).slots) := by
  have K' := K
  obtain ⟨S0, E0, S1, E1, S2, E2, S3, E3, S4, E4, S5, E5, S6, E6, F0, F1, F2, F3, F4, F5, F6⟩ := K'
  refine MetFree.of_bodySF (plainFor_of_name own_pn0) hisR ?_
  intro p e s m args below meth c s₁ Bd hml0 hP hK
  obtain ⟨rfl, hZ, hh⟩ := hP
  have hx := Bd.exec
  have hby := Bd.bytes
  have hml : c.maxLocals = 1 := hml0
  have hown : s.vm.findClass "com/example/wengao/wengao/mapping/AuditRoleIsStampedOnDeletePinLaw" = some m.cls := findClass_of_methodNamed Bd.named
  have X0 : Stand p l e ({ frames := 0, cells := 0, slots := 0, locals := 0 } : Room) s m #[(.int (6 : Int32))] below meth c s₁ [] 0 0 := Stand.of_body Bd
  have e0 : s₁.heap = h0 := by rw [← hh, Bd.state]; rfl
  have N0 := Fr.nil n0
  have pre0 : ∀ t, Steps p.tables e below (s₁.setTop (mkF m 0 #[.val (.int (6 : Int32))] [])) t → Steps p.tables e below (s₁.setTop (entryFrame m #[(.int (6 : Int32))] 1)) t := fun t k => castTop (own_ef1 m (6 : Int32)) k
  obtain ⟨T1, X1, e1, st1⟩ := getS2 X0 hx hZ hown (host := "") (Or.inl (hw _ (List.mem_of_getElem? (i := 27) rfl))) Via.refl e0 S2 (g := (mkF m 53 #[.val (.int (6 : Int32))] [])) rfl (hb hby own_d1_53)
  obtain ⟨fs, hr, hrun, hended, hW, hsame⟩ := X1.leave (v := some (.ref c2)) (fun h => by rw [Bd.returns] at h; cases h)
  refine ⟨_, _, pre0 _ ?_, hrun, hended, _, _, rfl, ?_, ⟨_, rfl⟩, hW, hsame.mono (by decide) (by decide)⟩
  · show Steps p.tables e below (s₁.setTop (mkF m 0 #[.val (.int (6 : Int32))] [])) _
    refine XS.iloadN X0.here hx rfl (hb hby own_d1_0) rfl ?_
    show Steps p.tables e below (s₁.setTop (mkF m 1 #[.val (.int (6 : Int32))] [(.int (6 : Int32))])) _
    refine XS.ifYes X0.here hx rfl (pc0 := 1) (pc' := 8) rfl (hb hby own_d1_1) rfl ((if0 _ _).trans (feq (by decide : ¬ ((6 : Int32) = (0 : Int32)))).2) (by decide) (by decide) ?_
    show Steps p.tables e below (s₁.setTop (mkF m 8 #[.val (.int (6 : Int32))] [])) _
    refine XS.iloadN X0.here hx rfl (hb hby own_d1_8) rfl ?_
    show Steps p.tables e below (s₁.setTop (mkF m 9 #[.val (.int (6 : Int32))] [(.int (6 : Int32))])) _
    refine XS.iconst X0.here hx rfl (hb hby own_d1_9) ?_
    show Steps p.tables e below (s₁.setTop (mkF m 10 #[.val (.int (6 : Int32))] [(.int (1 : Int32)), (.int (6 : Int32))])) _
    refine XS.icmpYes X0.here hx rfl (pc0 := 10) (pc' := 17) rfl (hb hby own_d1_10) rfl (feq (by decide : ¬ ((6 : Int32) = (1 : Int32)))).2 (by decide) (by decide) ?_
    show Steps p.tables e below (s₁.setTop (mkF m 17 #[.val (.int (6 : Int32))] [])) _
    refine XS.iloadN X0.here hx rfl (hb hby own_d1_17) rfl ?_
    show Steps p.tables e below (s₁.setTop (mkF m 18 #[.val (.int (6 : Int32))] [(.int (6 : Int32))])) _
    refine XS.iconst X0.here hx rfl (hb hby own_d1_18) ?_
    show Steps p.tables e below (s₁.setTop (mkF m 19 #[.val (.int (6 : Int32))] [(.int (2 : Int32)), (.int (6 : Int32))])) _
    refine XS.icmpYes X0.here hx rfl (pc0 := 19) (pc' := 26) rfl (hb hby own_d1_19) rfl (feq (by decide : ¬ ((6 : Int32) = (2 : Int32)))).2 (by decide) (by decide) ?_
    show Steps p.tables e below (s₁.setTop (mkF m 26 #[.val (.int (6 : Int32))] [])) _
    refine XS.iloadN X0.here hx rfl (hb hby own_d1_26) rfl ?_
    show Steps p.tables e below (s₁.setTop (mkF m 27 #[.val (.int (6 : Int32))] [(.int (6 : Int32))])) _
    refine XS.iconst X0.here hx rfl (hb hby own_d1_27) ?_
    show Steps p.tables e below (s₁.setTop (mkF m 28 #[.val (.int (6 : Int32))] [(.int (3 : Int32)), (.int (6 : Int32))])) _
    refine XS.icmpYes X0.here hx rfl (pc0 := 28) (pc' := 35) rfl (hb hby own_d1_28) rfl (feq (by decide : ¬ ((6 : Int32) = (3 : Int32)))).2 (by decide) (by decide) ?_
    show Steps p.tables e below (s₁.setTop (mkF m 35 #[.val (.int (6 : Int32))] [])) _
    refine XS.iloadN X0.here hx rfl (hb hby own_d1_35) rfl ?_
    show Steps p.tables e below (s₁.setTop (mkF m 36 #[.val (.int (6 : Int32))] [(.int (6 : Int32))])) _
    refine XS.iconst X0.here hx rfl (hb hby own_d1_36) ?_
    show Steps p.tables e below (s₁.setTop (mkF m 37 #[.val (.int (6 : Int32))] [(.int (4 : Int32)), (.int (6 : Int32))])) _
    refine XS.icmpYes X0.here hx rfl (pc0 := 37) (pc' := 44) rfl (hb hby own_d1_37) rfl (feq (by decide : ¬ ((6 : Int32) = (4 : Int32)))).2 (by decide) (by decide) ?_
    show Steps p.tables e below (s₁.setTop (mkF m 44 #[.val (.int (6 : Int32))] [])) _
    refine XS.iloadN X0.here hx rfl (hb hby own_d1_44) rfl ?_
    show Steps p.tables e below (s₁.setTop (mkF m 45 #[.val (.int (6 : Int32))] [(.int (6 : Int32))])) _
    refine XS.iconst X0.here hx rfl (hb hby own_d1_45) ?_
    show Steps p.tables e below (s₁.setTop (mkF m 46 #[.val (.int (6 : Int32))] [(.int (5 : Int32)), (.int (6 : Int32))])) _
    refine XS.icmpYes X0.here hx rfl (pc0 := 46) (pc' := 53) rfl (hb hby own_d1_46) rfl (feq (by decide : ¬ ((6 : Int32) = (5 : Int32)))).2 (by decide) (by decide) ?_
    show Steps p.tables e below (s₁.setTop (mkF m 53 #[.val (.int (6 : Int32))] [])) _
    refine st1 _ ?_
    show Steps p.tables e below (T1.setTop (mkF m 56 #[.val (.int (6 : Int32))] [(.ref c2)])) _
    jvm_step X1.here [X1.here.top, hx, (hb hby own_d1_56), X1.method', Bd.returns, Value.isRef, FieldType.isReference]
    first | (intro acts; rw [hr _ acts rfl rfl rfl]) | rw [hr _ _ rfl rfl rfl]
    exact Steps.refl _
  · show own_Q _ h0 n0 _ T1.heap _
    exact ⟨rfl, N0, e1⟩
set_option maxRecDepth 65536 in
set_option maxHeartbeats 40000000 in
theorem own_r2_6 (l : Launch) (Z : State) (a0 : Array Value) (hw : ∀ d ∈ tables_1, d.before a0 Z = true) (ws : List Jvm.Cond)  (c0 c1 c2 c3 c4 c5 c6 : Addr) (h0 : Heap) (n0 : Nat) (Z0 : n0 ≤ h0.size) (K : own_W Z h0 c0 c1 c2 c3 c4 c5 c6)  :
    MetFree l (⟨"com/example/wengao/wengao/mapping/AuditRole", "isStampedOnDelete", "()Z"⟩ : MethodName) (head1 (Jvm.Cond.code (⟨"com/example/wengao/wengao/mapping/AuditRole", "isStampedOnDelete", "()Z"⟩ : MethodName) prog_21_method_9_code 1 (some .boolean) :: ws) ({ frames := 0, cells := 0, slots := 0, locals := 0 } : Room)) (fun a U => a = #[(.ref c2)] ∧ Z.Warmed39 U.vm ∧ U.heap = h0) (fun _ _ _ _ _ => True) (fun _ U o U' => ∃ v L, o = .returned v ∧ own_Q (.int (1 : Int32)) h0 n0 v U'.heap L ∧ FrameEnd U o U' L ({ frames := 0, cells := 0, slots := 0, locals := 0 } : Room).cells ({ frames := 0, cells := 0, slots := 0, locals := 0 } : Room).slots) := by
  have K' := K
  obtain ⟨S0, E0, S1, E1, S2, E2, S3, E3, S4, E4, S5, E5, S6, E6, F0, F1, F2, F3, F4, F5, F6⟩ := K'
  have ne_2_1 : ¬ (c2 = c1) := (Fld.ne F2 F1 (fun q => absurd (Value.int.inj q) (by decide)))
  refine MetFree.of_bodySF (plainFor_of_name own_pn1) hisR ?_
  intro p e s m args below meth c s₁ Bd hml0 hP hK
  obtain ⟨rfl, hZ, hh⟩ := hP
  have hx := Bd.exec
  have hby := Bd.bytes
  have hml : c.maxLocals = 1 := hml0
  have hown : s.vm.findClass "com/example/wengao/wengao/mapping/AuditRole" = some m.cls := findClass_of_methodNamed Bd.named
  have X0 : Stand p l e ({ frames := 0, cells := 0, slots := 0, locals := 0 } : Room) s m #[(.ref c2)] below meth c s₁ [] 0 0 := Stand.of_body Bd
  have e0 : s₁.heap = h0 := by rw [← hh, Bd.state]; rfl
  have N0 := Fr.nil n0
  have pre0 : ∀ t, Steps p.tables e below (s₁.setTop (mkF m 0 #[.val (.ref c2)] [])) t → Steps p.tables e below (s₁.setTop (entryFrame m #[(.ref c2)] 1)) t := fun t k => castTop (own_ef2 m c2) k
  obtain ⟨T1, X1, e1, st1⟩ := getS2 X0 hx hZ hown (host := "") (Or.inl (hw _ (List.mem_of_getElem? (i := 13) rfl))) Via.refl e0 S1 (g := (mkF m 1 #[.val (.ref c2)] [(.ref c2)])) rfl (hb hby own_d2_1)
  obtain ⟨T2, X2, e2, st2⟩ := getS2 X1 hx hZ hown (host := "") (Or.inl (hw _ (List.mem_of_getElem? (i := 15) rfl))) Via.refl e1 S2 (g := (mkF m 8 #[.val (.ref c2)] [(.ref c2)])) rfl (hb hby own_d2_8)
  obtain ⟨fs, hr, hrun, hended, hW, hsame⟩ := X2.leave (v := some (.int (1 : Int32))) (fun h => by rw [Bd.returns] at h; cases h)
  refine ⟨_, _, pre0 _ ?_, hrun, hended, _, _, rfl, ?_, ⟨_, rfl⟩, hW, hsame.mono (by decide) (by decide)⟩
  · show Steps p.tables e below (s₁.setTop (mkF m 0 #[.val (.ref c2)] [])) _
    refine XS.aloadN X0.here hx rfl (hb hby own_d2_0) rfl rfl ?_
    show Steps p.tables e below (s₁.setTop (mkF m 1 #[.val (.ref c2)] [(.ref c2)])) _
    refine st1 _ ?_
    show Steps p.tables e below (T1.setTop (mkF m 4 #[.val (.ref c2)] [(.ref c1), (.ref c2)])) _
    refine Jvm.RoadKit.acmp (g := (mkF m 4 #[.val (.ref c2)] [(.ref c1), (.ref c2)])) X1 hx rfl rfl rfl (pc0 := 4) (pc' := 7) (same := false) rfl (hb hby own_d2_4) rfl (decide_eq_false fun q => ne_2_1 (Value.ref.inj q)) (by decide) (by decide) ?_
    show Steps p.tables e below (T1.setTop (mkF m 7 #[.val (.ref c2)] [])) _
    refine XS.aloadN X1.here hx rfl (hb hby own_d2_7) rfl rfl ?_
    show Steps p.tables e below (T1.setTop (mkF m 8 #[.val (.ref c2)] [(.ref c2)])) _
    refine st2 _ ?_
    show Steps p.tables e below (T2.setTop (mkF m 11 #[.val (.ref c2)] [(.ref c2), (.ref c2)])) _
    refine Jvm.RoadKit.acmp (g := (mkF m 11 #[.val (.ref c2)] [(.ref c2), (.ref c2)])) X2 hx rfl rfl rfl (pc0 := 11) (pc' := 14) (same := true) rfl (hb hby own_d2_11) rfl (decide_eq_true rfl) (by decide) (by decide) ?_
    show Steps p.tables e below (T2.setTop (mkF m 14 #[.val (.ref c2)] [])) _
    refine XS.iconst X2.here hx rfl (hb hby own_d2_14) ?_
    show Steps p.tables e below (T2.setTop (mkF m 15 #[.val (.ref c2)] [(.int (1 : Int32))])) _
    refine XS.goto X2.here hx rfl (pc0 := 15) (pc' := 19) rfl (hb hby own_d2_15) (by decide) (by decide) ?_
    show Steps p.tables e below (T2.setTop (mkF m 19 #[.val (.ref c2)] [(.int (1 : Int32))])) _
    exact retN X2 hx (t := .boolean) Bd.returns (by simp) (hb hby own_d2_19) hr
  · show own_Q _ h0 n0 _ T2.heap _
    exact ⟨rfl, N0, e2⟩
set_option maxRecDepth 65536 in
set_option maxHeartbeats 40000000 in
theorem own_r3_6 (l : Launch) (Z : State) (a0 : Array Value) (hw : ∀ d ∈ tables_1, d.before a0 Z = true) (ws : List Jvm.Cond)  (c0 c1 c2 c3 c4 c5 c6 : Addr) (h0 : Heap) (n0 : Nat) (Z0 : n0 ≤ h0.size) (K : own_W Z h0 c0 c1 c2 c3 c4 c5 c6)  :
    MetFree l (⟨"com/example/wengao/wengao/mapping/AuditRole", "isStampedOnSave", "()Z"⟩ : MethodName) (head1 (Jvm.Cond.code (⟨"com/example/wengao/wengao/mapping/AuditRole", "isStampedOnSave", "()Z"⟩ : MethodName) prog_21_method_7_code 1 (some .boolean) :: ws) ({ frames := 1, cells := 0, slots := 0, locals := 12 } : Room)) (fun a U => a = #[(.ref c2)] ∧ Z.Warmed39 U.vm ∧ U.heap = h0) (fun _ _ _ _ _ => True) (fun _ U o U' => ∃ v L, o = .returned v ∧ own_Q (.int (0 : Int32)) h0 n0 v U'.heap L ∧ FrameEnd U o U' L ({ frames := 1, cells := 0, slots := 0, locals := 12 } : Room).cells ({ frames := 1, cells := 0, slots := 0, locals := 12 } : Room).slots) := by
  have K' := K
  obtain ⟨S0, E0, S1, E1, S2, E2, S3, E3, S4, E4, S5, E5, S6, E6, F0, F1, F2, F3, F4, F5, F6⟩ := K'
  have ne_2_0 : ¬ (c2 = c0) := (Fld.ne F2 F0 (fun q => absurd (Value.int.inj q) (by decide)))
  refine MetFree.of_bodySF (plainFor_of_name own_pn1) hisR ?_
  intro p e s m args below meth c s₁ Bd hml0 hP hK
  obtain ⟨rfl, hZ, hh⟩ := hP
  have hx := Bd.exec
  have hby := Bd.bytes
  have hml : c.maxLocals = 1 := hml0
  have hown : s.vm.findClass "com/example/wengao/wengao/mapping/AuditRole" = some m.cls := findClass_of_methodNamed Bd.named
  have X0 : Stand p l e ({ frames := 1, cells := 0, slots := 0, locals := 12 } : Room) s m #[(.ref c2)] below meth c s₁ [] 0 0 := Stand.of_body Bd
  have e0 : s₁.heap = h0 := by rw [← hh, Bd.state]; rfl
  have N0 := Fr.nil n0
  have pre0 : ∀ t, Steps p.tables e below (s₁.setTop (mkF m 0 #[.val (.ref c2)] [])) t → Steps p.tables e below (s₁.setTop (entryFrame m #[(.ref c2)] 1)) t := fun t k => castTop (own_ef3 m c2) k
  obtain ⟨T1, X1, e1, st1⟩ := getS2 X0 hx hZ hown (host := "") (Or.inl (hw _ (List.mem_of_getElem? (i := 22) rfl))) Via.refl e0 S0 (g := (mkF m 1 #[.val (.ref c2)] [(.ref c2)])) rfl (hb hby own_d3_1)
  obtain ⟨cq2, kq2, q2a, q2b, q2c⟩ := isOf hZ e1 E2
  obtain ⟨_, _, ⟨T2, L2, k2, n2⟩, -, X2, ⟨Lc2, hQ2, l2, y2, z2⟩, st2⟩ := X1.virtualBack hx (y := (⟨"com/example/wengao/wengao/mapping/AuditRole", "isStampedOnDelete", "()Z"⟩ : MethodName)) (z := (⟨"com/example/wengao/wengao/mapping/AuditRole", "isStampedOnDelete", "()Z"⟩ : MethodName)) hown (mvT hZ (hw _ (List.mem_of_getElem? (i := 25) rfl))) (mvT hZ (hw _ (List.mem_of_getElem? (i := 9) rfl))) (notFace_of_selects (args := #[]) (mvT hZ (hw _ (List.mem_of_getElem? (i := 11) rfl)))) (mvT hZ (hw _ (List.mem_of_getElem? (i := 11) rfl))) (mvT hZ (hw _ (List.mem_of_getElem? (i := 10) rfl))) (by decide) (backOf (W := 0) (own_r2_6 l Z a0 hw [] c0 c1 c2 c3 c4 c5 c6 h0 n0 Z0 K) hZ (hw _ (List.mem_of_getElem? (i := 12) rfl)) (hw _ (List.mem_of_getElem? (i := 6) rfl)) (by decide) (by decide)) q2a q2c (g := (mkF m 8 #[.val (.ref c2)] [(.ref c2)])) rfl (by rw [hml]; rfl) (Steps.refl _) (argsL := []) (rest := []) (lenOf own_pd1 rfl) rfl (by show 2 * 0 + _ ≤ _; exact Nat.le_of_eq rfl) (hb hby own_d3_8) (fun _ _ => ⟨rfl, e1, (by decide : 0 + 0 ≤ _), (by decide : 0 + 0 ≤ _)⟩)
  dsimp only [Pt.U, Pt.locs, Pt.cells, Pt.slots] at X2 l2 y2 z2 st2 hQ2
  subst l2 y2 z2
  obtain ⟨rfl, N2q, e2⟩ := hQ2
  have N2 := Fr.app N0 N2q
  obtain ⟨fs, hr, hrun, hended, hW, hsame⟩ := X2.leave (v := some (.int (0 : Int32))) (fun h => by rw [Bd.returns] at h; cases h)
  refine ⟨_, _, pre0 _ ?_, hrun, hended, _, _, rfl, ?_, ⟨_, rfl⟩, hW, hsame.mono (by decide) (by decide)⟩
  · show Steps p.tables e below (s₁.setTop (mkF m 0 #[.val (.ref c2)] [])) _
    refine XS.aloadN X0.here hx rfl (hb hby own_d3_0) rfl rfl ?_
    show Steps p.tables e below (s₁.setTop (mkF m 1 #[.val (.ref c2)] [(.ref c2)])) _
    refine st1 _ ?_
    show Steps p.tables e below (T1.setTop (mkF m 4 #[.val (.ref c2)] [(.ref c0), (.ref c2)])) _
    refine Jvm.RoadKit.acmp (g := (mkF m 4 #[.val (.ref c2)] [(.ref c0), (.ref c2)])) X1 hx rfl rfl rfl (pc0 := 4) (pc' := 7) (same := false) rfl (hb hby own_d3_4) rfl (decide_eq_false fun q => ne_2_0 (Value.ref.inj q)) (by decide) (by decide) ?_
    show Steps p.tables e below (T1.setTop (mkF m 7 #[.val (.ref c2)] [])) _
    refine XS.aloadN X1.here hx rfl (hb hby own_d3_7) rfl rfl ?_
    show Steps p.tables e below (T1.setTop (mkF m 8 #[.val (.ref c2)] [(.ref c2)])) _
    refine st2.trans ?_
    show Steps p.tables e below (T2.setTop (mkF m 11 #[.val (.ref c2)] [(.int (1 : Int32))])) _
    refine XS.ifYes X2.here hx rfl (pc0 := 11) (pc' := 18) rfl (hb hby own_d3_11) rfl ((if0 _ _).trans (feq (by decide : ¬ ((1 : Int32) = (0 : Int32)))).2) (by decide) (by decide) ?_
    show Steps p.tables e below (T2.setTop (mkF m 18 #[.val (.ref c2)] [])) _
    refine XS.iconst X2.here hx rfl (hb hby own_d3_18) ?_
    show Steps p.tables e below (T2.setTop (mkF m 19 #[.val (.ref c2)] [(.int (0 : Int32))])) _
    exact retN X2 hx (t := .boolean) Bd.returns (by simp) (hb hby own_d3_19) hr
  · show own_Q _ h0 n0 _ T2.heap _
    exact ⟨rfl, N2, e2⟩
set_option maxRecDepth 65536 in
set_option maxHeartbeats 40000000 in
theorem own_r0_6 (l : Launch) (Z : State) (a0 : Array Value) (hw : ∀ d ∈ tables_1, d.before a0 Z = true) (ws : List Jvm.Cond) (p0 : Int32) (c0 c1 c2 c3 c4 c5 c6 : Addr) (h0 : Heap) (n0 : Nat) (Z0 : n0 ≤ h0.size) (K : own_W Z h0 c0 c1 c2 c3 c4 c5 c6) (hk0 : ((p0 &&& (2147483647 : Int32)) % (7 : Int32)) = (6 : Int32)) :
    MetFree l x (head1 (Jvm.Cond.code x code maxLocals ret :: ws) room_1) (fun a U => a = #[(.int p0)] ∧ Z.Warmed39 U.vm ∧ U.heap = h0) (fun _ _ _ _ _ => True) (fun _ U o U' => ∃ v L, o = .returned v ∧ own_Q (.int (1 : Int32)) h0 n0 v U'.heap L ∧ FrameEnd U o U' L room_1.cells room_1.slots) := by
  have K' := K
  obtain ⟨S0, E0, S1, E1, S2, E2, S3, E3, S4, E4, S5, E5, S6, E6, F0, F1, F2, F3, F4, F5, F6⟩ := K'
  refine MetFree.of_bodySF (plainFor_of_name own_pn0) hisR ?_
  intro p e s m args below meth c s₁ Bd hml0 hP hK
  obtain ⟨rfl, hZ, hh⟩ := hP
  have hx := Bd.exec
  have hby := Bd.bytes
  have hml : c.maxLocals = 8 := hml0
  have hown : s.vm.findClass "com/example/wengao/wengao/mapping/AuditRoleIsStampedOnDeletePinLaw" = some m.cls := findClass_of_methodNamed Bd.named
  have X0 : Stand p l e room_1 s m #[(.int p0)] below meth c s₁ [] 0 0 := Stand.of_body Bd
  have e0 : s₁.heap = h0 := by rw [← hh, Bd.state]; rfl
  have N0 := Fr.nil n0
  have pre0 : ∀ t, Steps p.tables e below (s₁.setTop (mkF m 0 #[.val (.int p0), .unset, .unset, .unset, .unset, .unset, .unset, .unset] [])) t → Steps p.tables e below (s₁.setTop (entryFrame m #[(.int p0)] maxLocals)) t := fun t k => castTop (own_ef0 m p0) k
  obtain ⟨_, _, ⟨T1, L1, k1, n1⟩, -, X1, ⟨Lc1, hQ1, l1, y1, z1⟩, st1⟩ := Jvm.LawKit.callS X0 hx (y := (⟨"com/example/wengao/wengao/mapping/AuditRoleIsStampedOnDeletePinLaw", "pick", "(I)Lcom/example/wengao/wengao/mapping/AuditRole;"⟩ : MethodName)) hown (mvT hZ (hw _ (List.mem_of_getElem? (i := 1) rfl))) (mvT hZ (hw _ (List.mem_of_getElem? (i := 2) rfl))) (mvT hZ (hw _ (List.mem_of_getElem? (i := 3) rfl))) (mvT hZ (hw _ (List.mem_of_getElem? (i := 4) rfl))) (by decide) (backOf (W := 0) (own_r1_6 l Z a0 hw [] c0 c1 c2 c3 c4 c5 c6 h0 n0 Z0 K) hZ (hw _ (List.mem_of_getElem? (i := 4) rfl)) (hw _ (List.mem_of_getElem? (i := 3) rfl)) (by decide) (by decide)) (g := (mkF m 9 #[.val (.int p0), .val (.int (6 : Int32)), .unset, .unset, .unset, .unset, .unset, .unset] [(.int (6 : Int32))])) rfl (by rw [hml]; rfl) (argsL := [(.int (6 : Int32))]) (rest := []) (lenOf own_pd0 rfl) rfl (by show 2 * 0 + _ ≤ _; exact Nat.le_of_eq rfl) (hb hby at_9) (fun _ _ => ⟨rfl, e0, (by decide : 0 + 0 ≤ _), (by decide : 0 + 0 ≤ _)⟩)
  dsimp only [Pt.U, Pt.locs, Pt.cells, Pt.slots] at X1 l1 y1 z1 st1 hQ1
  subst l1 y1 z1
  obtain ⟨rfl, N1q, e1⟩ := hQ1
  have N1 := Fr.app N0 N1q
  obtain ⟨cq2, kq2, q2a, q2b, q2c⟩ := isOf hZ e1 E2
  obtain ⟨_, _, ⟨T2, L2, k2, n2⟩, -, X2, ⟨Lc2, hQ2, l2, y2, z2⟩, st2⟩ := X1.virtualBack hx (y := (⟨"com/example/wengao/wengao/mapping/AuditRole", "isStampedOnDelete", "()Z"⟩ : MethodName)) (z := (⟨"com/example/wengao/wengao/mapping/AuditRole", "isStampedOnDelete", "()Z"⟩ : MethodName)) hown (mvT hZ (hw _ (List.mem_of_getElem? (i := 8) rfl))) (mvT hZ (hw _ (List.mem_of_getElem? (i := 9) rfl))) (notFace_of_selects (args := #[]) (mvT hZ (hw _ (List.mem_of_getElem? (i := 11) rfl)))) (mvT hZ (hw _ (List.mem_of_getElem? (i := 11) rfl))) (mvT hZ (hw _ (List.mem_of_getElem? (i := 10) rfl))) (by decide) (backOf (W := 0) (own_r2_6 l Z a0 hw [] c0 c1 c2 c3 c4 c5 c6 h0 n0 Z0 K) hZ (hw _ (List.mem_of_getElem? (i := 12) rfl)) (hw _ (List.mem_of_getElem? (i := 6) rfl)) (by decide) (by decide)) q2a q2c (g := (mkF m 31 #[.val (.int p0), .val (.int (6 : Int32)), .val (.ref c2), .val (.int (1 : Int32)), .unset, .unset, .unset, .unset] [(.ref c2)])) rfl (by rw [hml]; rfl) (Steps.refl _) (argsL := []) (rest := []) (lenOf own_pd1 rfl) rfl (by show 2 * 0 + _ ≤ _; exact Nat.le_of_eq rfl) (hb hby at_31) (fun _ _ => ⟨rfl, e1, (by decide : 0 + 0 ≤ _), (by decide : 0 + 0 ≤ _)⟩)
  dsimp only [Pt.U, Pt.locs, Pt.cells, Pt.slots] at X2 l2 y2 z2 st2 hQ2
  subst l2 y2 z2
  obtain ⟨rfl, N2q, e2⟩ := hQ2
  have N2 := Fr.app N1 N2q
  obtain ⟨cq3, kq3, q3a, q3b, q3c⟩ := isOf hZ e2 E2
  obtain ⟨_, _, ⟨T3, L3, k3, n3⟩, -, X3, ⟨Lc3, hQ3, l3, y3, z3⟩, st3⟩ := X2.virtualBack hx (y := (⟨"com/example/wengao/wengao/mapping/AuditRole", "isStampedOnSave", "()Z"⟩ : MethodName)) (z := (⟨"com/example/wengao/wengao/mapping/AuditRole", "isStampedOnSave", "()Z"⟩ : MethodName)) hown (mvT hZ (hw _ (List.mem_of_getElem? (i := 17) rfl))) (mvT hZ (hw _ (List.mem_of_getElem? (i := 18) rfl))) (notFace_of_selects (args := #[]) (mvT hZ (hw _ (List.mem_of_getElem? (i := 20) rfl)))) (mvT hZ (hw _ (List.mem_of_getElem? (i := 20) rfl))) (mvT hZ (hw _ (List.mem_of_getElem? (i := 19) rfl))) (by decide) (backOf (W := 0) (own_r3_6 l Z a0 hw [] c0 c1 c2 c3 c4 c5 c6 h0 n0 Z0 K) hZ (hw _ (List.mem_of_getElem? (i := 21) rfl)) (hw _ (List.mem_of_getElem? (i := 6) rfl)) (by decide) (by decide)) q3a q3c (g := (mkF m 56 #[.val (.int p0), .val (.int (6 : Int32)), .val (.ref c2), .val (.int (1 : Int32)), .val (.int (1 : Int32)), .val (.int (0 : Int32)), .unset, .unset] [(.ref c2)])) rfl (by rw [hml]; rfl) (Steps.refl _) (argsL := []) (rest := []) (lenOf own_pd1 rfl) rfl (by show 2 * 0 + _ ≤ _; exact Nat.le_of_eq rfl) (hb hby at_56) (fun _ _ => ⟨rfl, e2, (by decide : 0 + 0 ≤ _), (by decide : 0 + 0 ≤ _)⟩)
  dsimp only [Pt.U, Pt.locs, Pt.cells, Pt.slots] at X3 l3 y3 z3 st3 hQ3
  subst l3 y3 z3
  obtain ⟨rfl, N3q, e3⟩ := hQ3
  have N3 := Fr.app N2 N3q
  obtain ⟨fs, hr, hrun, hended, hW, hsame⟩ := X3.leave (v := some (.int (1 : Int32))) (fun h => by rw [Bd.returns] at h; cases h)
  refine ⟨_, _, pre0 _ ?_, hrun, hended, _, _, rfl, ?_, ⟨_, rfl⟩, hW, hsame.mono (by decide) (by decide)⟩
  · show Steps p.tables e below (s₁.setTop (mkF m 0 #[.val (.int p0), .unset, .unset, .unset, .unset, .unset, .unset, .unset] [])) _
    refine XS.iloadN X0.here hx rfl (hb hby at_0) rfl ?_
    show Steps p.tables e below (s₁.setTop (mkF m 1 #[.val (.int p0), .unset, .unset, .unset, .unset, .unset, .unset, .unset] [(.int p0)])) _
    refine X0.ldcInt hx hown (mvT hZ (hw _ (List.mem_of_getElem? (i := 0) rfl))) (g := (mkF m 1 #[.val (.int p0), .unset, .unset, .unset, .unset, .unset, .unset, .unset] [(.int p0)])) rfl (hb hby at_1) _ ?_
    show Steps p.tables e below (s₁.setTop (mkF m 3 #[.val (.int p0), .unset, .unset, .unset, .unset, .unset, .unset, .unset] [(.int (2147483647 : Int32)), (.int p0)])) _
    refine XS.iand X0.here hx rfl (hb hby at_3) rfl ?_
    show Steps p.tables e below (s₁.setTop (mkF m 4 #[.val (.int p0), .unset, .unset, .unset, .unset, .unset, .unset, .unset] [(.int (p0 &&& (2147483647 : Int32)))])) _
    refine XS.bipush X0.here hx rfl (hb hby at_4) ?_
    show Steps p.tables e below (s₁.setTop (mkF m 6 #[.val (.int p0), .unset, .unset, .unset, .unset, .unset, .unset, .unset] [(.int (7 : Int32)), (.int (p0 &&& (2147483647 : Int32)))])) _
    refine iremM X0 hx rfl (hb hby at_6) rfl (by decide) ?_
    show Steps p.tables e below (s₁.setTop (mkF m 7 #[.val (.int p0), .unset, .unset, .unset, .unset, .unset, .unset, .unset] [(.int ((p0 &&& (2147483647 : Int32)) % (7 : Int32)))])) _
    rw [hk0]
    show Steps p.tables e below (s₁.setTop (mkF m 7 #[.val (.int p0), .unset, .unset, .unset, .unset, .unset, .unset, .unset] [(.int (6 : Int32))])) _
    refine XS.istoreN X0.here hx rfl (hb hby at_7) rfl (l' := #[.val (.int p0), .val (.int (6 : Int32)), .unset, .unset, .unset, .unset, .unset, .unset]) rfl ?_
    show Steps p.tables e below (s₁.setTop (mkF m 8 #[.val (.int p0), .val (.int (6 : Int32)), .unset, .unset, .unset, .unset, .unset, .unset] [])) _
    refine XS.iloadN X0.here hx rfl (hb hby at_8) rfl ?_
    show Steps p.tables e below (s₁.setTop (mkF m 9 #[.val (.int p0), .val (.int (6 : Int32)), .unset, .unset, .unset, .unset, .unset, .unset] [(.int (6 : Int32))])) _
    refine st1 _ ?_
    show Steps p.tables e below (T1.setTop (mkF m 12 #[.val (.int p0), .val (.int (6 : Int32)), .unset, .unset, .unset, .unset, .unset, .unset] [(.ref c2)])) _
    refine XS.astoreN X1.here hx rfl (hb hby at_12) rfl rfl (l' := #[.val (.int p0), .val (.int (6 : Int32)), .val (.ref c2), .unset, .unset, .unset, .unset, .unset]) rfl ?_
    show Steps p.tables e below (T1.setTop (mkF m 13 #[.val (.int p0), .val (.int (6 : Int32)), .val (.ref c2), .unset, .unset, .unset, .unset, .unset] [])) _
    refine XS.iloadN X1.here hx rfl (hb hby at_13) rfl ?_
    show Steps p.tables e below (T1.setTop (mkF m 14 #[.val (.int p0), .val (.int (6 : Int32)), .val (.ref c2), .unset, .unset, .unset, .unset, .unset] [(.int (6 : Int32))])) _
    refine XS.iconst X1.here hx rfl (hb hby at_14) ?_
    show Steps p.tables e below (T1.setTop (mkF m 15 #[.val (.int p0), .val (.int (6 : Int32)), .val (.ref c2), .unset, .unset, .unset, .unset, .unset] [(.int (5 : Int32)), (.int (6 : Int32))])) _
    refine XS.icmpNo X1.here hx rfl (hb hby at_15) rfl (feq (by decide : ¬ ((6 : Int32) = (5 : Int32)))).1 ?_
    show Steps p.tables e below (T1.setTop (mkF m 18 #[.val (.int p0), .val (.int (6 : Int32)), .val (.ref c2), .unset, .unset, .unset, .unset, .unset] [])) _
    refine XS.iloadN X1.here hx rfl (hb hby at_18) rfl ?_
    show Steps p.tables e below (T1.setTop (mkF m 19 #[.val (.int p0), .val (.int (6 : Int32)), .val (.ref c2), .unset, .unset, .unset, .unset, .unset] [(.int (6 : Int32))])) _
    refine XS.bipush X1.here hx rfl (hb hby at_19) ?_
    show Steps p.tables e below (T1.setTop (mkF m 21 #[.val (.int p0), .val (.int (6 : Int32)), .val (.ref c2), .unset, .unset, .unset, .unset, .unset] [(.int (6 : Int32)), (.int (6 : Int32))])) _
    refine XS.icmpNo X1.here hx rfl (hb hby at_21) rfl (teq (by decide : (6 : Int32) = (6 : Int32))).2 ?_
    show Steps p.tables e below (T1.setTop (mkF m 24 #[.val (.int p0), .val (.int (6 : Int32)), .val (.ref c2), .unset, .unset, .unset, .unset, .unset] [])) _
    refine XS.iconst X1.here hx rfl (hb hby at_24) ?_
    show Steps p.tables e below (T1.setTop (mkF m 25 #[.val (.int p0), .val (.int (6 : Int32)), .val (.ref c2), .unset, .unset, .unset, .unset, .unset] [(.int (1 : Int32))])) _
    refine XS.goto X1.here hx rfl (pc0 := 25) (pc' := 29) rfl (hb hby at_25) (by decide) (by decide) ?_
    show Steps p.tables e below (T1.setTop (mkF m 29 #[.val (.int p0), .val (.int (6 : Int32)), .val (.ref c2), .unset, .unset, .unset, .unset, .unset] [(.int (1 : Int32))])) _
    refine XS.istoreN X1.here hx rfl (hb hby at_29) rfl (l' := #[.val (.int p0), .val (.int (6 : Int32)), .val (.ref c2), .val (.int (1 : Int32)), .unset, .unset, .unset, .unset]) rfl ?_
    show Steps p.tables e below (T1.setTop (mkF m 30 #[.val (.int p0), .val (.int (6 : Int32)), .val (.ref c2), .val (.int (1 : Int32)), .unset, .unset, .unset, .unset] [])) _
    refine XS.aloadN X1.here hx rfl (hb hby at_30) rfl rfl ?_
    show Steps p.tables e below (T1.setTop (mkF m 31 #[.val (.int p0), .val (.int (6 : Int32)), .val (.ref c2), .val (.int (1 : Int32)), .unset, .unset, .unset, .unset] [(.ref c2)])) _
    refine st2.trans ?_
    show Steps p.tables e below (T2.setTop (mkF m 34 #[.val (.int p0), .val (.int (6 : Int32)), .val (.ref c2), .val (.int (1 : Int32)), .unset, .unset, .unset, .unset] [(.int (1 : Int32))])) _
    refine XS.istore X2.here hx rfl (hb hby at_34) rfl (l' := #[.val (.int p0), .val (.int (6 : Int32)), .val (.ref c2), .val (.int (1 : Int32)), .val (.int (1 : Int32)), .unset, .unset, .unset]) rfl ?_
    show Steps p.tables e below (T2.setTop (mkF m 36 #[.val (.int p0), .val (.int (6 : Int32)), .val (.ref c2), .val (.int (1 : Int32)), .val (.int (1 : Int32)), .unset, .unset, .unset] [])) _
    refine XS.iload X2.here hx rfl (hb hby at_36) rfl ?_
    show Steps p.tables e below (T2.setTop (mkF m 38 #[.val (.int p0), .val (.int (6 : Int32)), .val (.ref c2), .val (.int (1 : Int32)), .val (.int (1 : Int32)), .unset, .unset, .unset] [(.int (1 : Int32))])) _
    refine XS.iloadN X2.here hx rfl (hb hby at_38) rfl ?_
    show Steps p.tables e below (T2.setTop (mkF m 39 #[.val (.int p0), .val (.int (6 : Int32)), .val (.ref c2), .val (.int (1 : Int32)), .val (.int (1 : Int32)), .unset, .unset, .unset] [(.int (1 : Int32)), (.int (1 : Int32))])) _
    refine XS.icmpYes X2.here hx rfl (pc0 := 39) (pc' := 44) rfl (hb hby at_39) rfl (teq (by decide : (1 : Int32) = (1 : Int32))).1 (by decide) (by decide) ?_
    show Steps p.tables e below (T2.setTop (mkF m 44 #[.val (.int p0), .val (.int (6 : Int32)), .val (.ref c2), .val (.int (1 : Int32)), .val (.int (1 : Int32)), .unset, .unset, .unset] [])) _
    refine XS.iloadN X2.here hx rfl (hb hby at_44) rfl ?_
    show Steps p.tables e below (T2.setTop (mkF m 45 #[.val (.int p0), .val (.int (6 : Int32)), .val (.ref c2), .val (.int (1 : Int32)), .val (.int (1 : Int32)), .unset, .unset, .unset] [(.int (6 : Int32))])) _
    refine XS.ifYes X2.here hx rfl (pc0 := 45) (pc' := 52) rfl (hb hby at_45) rfl ((if0 _ _).trans (feq (by decide : ¬ ((6 : Int32) = (0 : Int32)))).2) (by decide) (by decide) ?_
    show Steps p.tables e below (T2.setTop (mkF m 52 #[.val (.int p0), .val (.int (6 : Int32)), .val (.ref c2), .val (.int (1 : Int32)), .val (.int (1 : Int32)), .unset, .unset, .unset] [])) _
    refine XS.iconst X2.here hx rfl (hb hby at_52) ?_
    show Steps p.tables e below (T2.setTop (mkF m 53 #[.val (.int p0), .val (.int (6 : Int32)), .val (.ref c2), .val (.int (1 : Int32)), .val (.int (1 : Int32)), .unset, .unset, .unset] [(.int (0 : Int32))])) _
    refine XS.istore X2.here hx rfl (hb hby at_53) rfl (l' := #[.val (.int p0), .val (.int (6 : Int32)), .val (.ref c2), .val (.int (1 : Int32)), .val (.int (1 : Int32)), .val (.int (0 : Int32)), .unset, .unset]) rfl ?_
    show Steps p.tables e below (T2.setTop (mkF m 55 #[.val (.int p0), .val (.int (6 : Int32)), .val (.ref c2), .val (.int (1 : Int32)), .val (.int (1 : Int32)), .val (.int (0 : Int32)), .unset, .unset] [])) _
    refine XS.aloadN X2.here hx rfl (hb hby at_55) rfl rfl ?_
    show Steps p.tables e below (T2.setTop (mkF m 56 #[.val (.int p0), .val (.int (6 : Int32)), .val (.ref c2), .val (.int (1 : Int32)), .val (.int (1 : Int32)), .val (.int (0 : Int32)), .unset, .unset] [(.ref c2)])) _
    refine st3.trans ?_
    show Steps p.tables e below (T3.setTop (mkF m 59 #[.val (.int p0), .val (.int (6 : Int32)), .val (.ref c2), .val (.int (1 : Int32)), .val (.int (1 : Int32)), .val (.int (0 : Int32)), .unset, .unset] [(.int (0 : Int32))])) _
    refine XS.istore X3.here hx rfl (hb hby at_59) rfl (l' := #[.val (.int p0), .val (.int (6 : Int32)), .val (.ref c2), .val (.int (1 : Int32)), .val (.int (1 : Int32)), .val (.int (0 : Int32)), .val (.int (0 : Int32)), .unset]) rfl ?_
    show Steps p.tables e below (T3.setTop (mkF m 61 #[.val (.int p0), .val (.int (6 : Int32)), .val (.ref c2), .val (.int (1 : Int32)), .val (.int (1 : Int32)), .val (.int (0 : Int32)), .val (.int (0 : Int32)), .unset] [])) _
    refine XS.iload X3.here hx rfl (hb hby at_61) rfl ?_
    show Steps p.tables e below (T3.setTop (mkF m 63 #[.val (.int p0), .val (.int (6 : Int32)), .val (.ref c2), .val (.int (1 : Int32)), .val (.int (1 : Int32)), .val (.int (0 : Int32)), .val (.int (0 : Int32)), .unset] [(.int (0 : Int32))])) _
    refine XS.ifYes X3.here hx rfl (pc0 := 63) (pc' := 70) rfl (hb hby at_63) rfl ((if0 _ _).trans (teq (by decide : (0 : Int32) = (0 : Int32))).1) (by decide) (by decide) ?_
    show Steps p.tables e below (T3.setTop (mkF m 70 #[.val (.int p0), .val (.int (6 : Int32)), .val (.ref c2), .val (.int (1 : Int32)), .val (.int (1 : Int32)), .val (.int (0 : Int32)), .val (.int (0 : Int32)), .unset] [])) _
    refine XS.iconst X3.here hx rfl (hb hby at_70) ?_
    show Steps p.tables e below (T3.setTop (mkF m 71 #[.val (.int p0), .val (.int (6 : Int32)), .val (.ref c2), .val (.int (1 : Int32)), .val (.int (1 : Int32)), .val (.int (0 : Int32)), .val (.int (0 : Int32)), .unset] [(.int (0 : Int32))])) _
    refine XS.iload X3.here hx rfl (hb hby at_71) rfl ?_
    show Steps p.tables e below (T3.setTop (mkF m 73 #[.val (.int p0), .val (.int (6 : Int32)), .val (.ref c2), .val (.int (1 : Int32)), .val (.int (1 : Int32)), .val (.int (0 : Int32)), .val (.int (0 : Int32)), .unset] [(.int (0 : Int32)), (.int (0 : Int32))])) _
    refine XS.ifYes X3.here hx rfl (pc0 := 73) (pc' := 80) rfl (hb hby at_73) rfl ((if0 _ _).trans (teq (by decide : (0 : Int32) = (0 : Int32))).1) (by decide) (by decide) ?_
    show Steps p.tables e below (T3.setTop (mkF m 80 #[.val (.int p0), .val (.int (6 : Int32)), .val (.ref c2), .val (.int (1 : Int32)), .val (.int (1 : Int32)), .val (.int (0 : Int32)), .val (.int (0 : Int32)), .unset] [(.int (0 : Int32))])) _
    refine XS.iconst X3.here hx rfl (hb hby at_80) ?_
    show Steps p.tables e below (T3.setTop (mkF m 81 #[.val (.int p0), .val (.int (6 : Int32)), .val (.ref c2), .val (.int (1 : Int32)), .val (.int (1 : Int32)), .val (.int (0 : Int32)), .val (.int (0 : Int32)), .unset] [(.int (0 : Int32)), (.int (0 : Int32))])) _
    refine XS.iadd X3.here hx rfl (hb hby at_81) rfl ?_
    show Steps p.tables e below (T3.setTop (mkF m 82 #[.val (.int p0), .val (.int (6 : Int32)), .val (.ref c2), .val (.int (1 : Int32)), .val (.int (1 : Int32)), .val (.int (0 : Int32)), .val (.int (0 : Int32)), .unset] [(.int ((0 : Int32) + (0 : Int32)))])) _
    refine XS.iload X3.here hx rfl (hb hby at_82) rfl ?_
    show Steps p.tables e below (T3.setTop (mkF m 84 #[.val (.int p0), .val (.int (6 : Int32)), .val (.ref c2), .val (.int (1 : Int32)), .val (.int (1 : Int32)), .val (.int (0 : Int32)), .val (.int (0 : Int32)), .unset] [(.int (1 : Int32)), (.int ((0 : Int32) + (0 : Int32)))])) _
    refine XS.ifNo X3.here hx rfl (hb hby at_84) rfl ((if0 _ _).trans (feq (by decide : ¬ ((1 : Int32) = (0 : Int32)))).1) ?_
    show Steps p.tables e below (T3.setTop (mkF m 87 #[.val (.int p0), .val (.int (6 : Int32)), .val (.ref c2), .val (.int (1 : Int32)), .val (.int (1 : Int32)), .val (.int (0 : Int32)), .val (.int (0 : Int32)), .unset] [(.int ((0 : Int32) + (0 : Int32)))])) _
    refine XS.iconst X3.here hx rfl (hb hby at_87) ?_
    show Steps p.tables e below (T3.setTop (mkF m 88 #[.val (.int p0), .val (.int (6 : Int32)), .val (.ref c2), .val (.int (1 : Int32)), .val (.int (1 : Int32)), .val (.int (0 : Int32)), .val (.int (0 : Int32)), .unset] [(.int (1 : Int32)), (.int ((0 : Int32) + (0 : Int32)))])) _
    refine XS.goto X3.here hx rfl (pc0 := 88) (pc' := 92) rfl (hb hby at_88) (by decide) (by decide) ?_
    show Steps p.tables e below (T3.setTop (mkF m 92 #[.val (.int p0), .val (.int (6 : Int32)), .val (.ref c2), .val (.int (1 : Int32)), .val (.int (1 : Int32)), .val (.int (0 : Int32)), .val (.int (0 : Int32)), .unset] [(.int (1 : Int32)), (.int ((0 : Int32) + (0 : Int32)))])) _
    refine XS.iadd X3.here hx rfl (hb hby at_92) rfl ?_
    show Steps p.tables e below (T3.setTop (mkF m 93 #[.val (.int p0), .val (.int (6 : Int32)), .val (.ref c2), .val (.int (1 : Int32)), .val (.int (1 : Int32)), .val (.int (0 : Int32)), .val (.int (0 : Int32)), .unset] [(.int (((0 : Int32) + (0 : Int32)) + (1 : Int32)))])) _
    refine XS.istore X3.here hx rfl (hb hby at_93) rfl (l' := #[.val (.int p0), .val (.int (6 : Int32)), .val (.ref c2), .val (.int (1 : Int32)), .val (.int (1 : Int32)), .val (.int (0 : Int32)), .val (.int (0 : Int32)), .val (.int (((0 : Int32) + (0 : Int32)) + (1 : Int32)))]) rfl ?_
    show Steps p.tables e below (T3.setTop (mkF m 95 #[.val (.int p0), .val (.int (6 : Int32)), .val (.ref c2), .val (.int (1 : Int32)), .val (.int (1 : Int32)), .val (.int (0 : Int32)), .val (.int (0 : Int32)), .val (.int (((0 : Int32) + (0 : Int32)) + (1 : Int32)))] [])) _
    refine XS.iload X3.here hx rfl (hb hby at_95) rfl ?_
    show Steps p.tables e below (T3.setTop (mkF m 97 #[.val (.int p0), .val (.int (6 : Int32)), .val (.ref c2), .val (.int (1 : Int32)), .val (.int (1 : Int32)), .val (.int (0 : Int32)), .val (.int (0 : Int32)), .val (.int (((0 : Int32) + (0 : Int32)) + (1 : Int32)))] [(.int (((0 : Int32) + (0 : Int32)) + (1 : Int32)))])) _
    refine XS.iconst X3.here hx rfl (hb hby at_97) ?_
    show Steps p.tables e below (T3.setTop (mkF m 98 #[.val (.int p0), .val (.int (6 : Int32)), .val (.ref c2), .val (.int (1 : Int32)), .val (.int (1 : Int32)), .val (.int (0 : Int32)), .val (.int (0 : Int32)), .val (.int (((0 : Int32) + (0 : Int32)) + (1 : Int32)))] [(.int (1 : Int32)), (.int (((0 : Int32) + (0 : Int32)) + (1 : Int32)))])) _
    refine XS.icmpNo X3.here hx rfl (hb hby at_98) rfl (teq (by decide : (((0 : Int32) + (0 : Int32)) + (1 : Int32)) = (1 : Int32))).2 ?_
    show Steps p.tables e below (T3.setTop (mkF m 101 #[.val (.int p0), .val (.int (6 : Int32)), .val (.ref c2), .val (.int (1 : Int32)), .val (.int (1 : Int32)), .val (.int (0 : Int32)), .val (.int (0 : Int32)), .val (.int (((0 : Int32) + (0 : Int32)) + (1 : Int32)))] [])) _
    refine XS.iconst X3.here hx rfl (hb hby at_101) ?_
    show Steps p.tables e below (T3.setTop (mkF m 102 #[.val (.int p0), .val (.int (6 : Int32)), .val (.ref c2), .val (.int (1 : Int32)), .val (.int (1 : Int32)), .val (.int (0 : Int32)), .val (.int (0 : Int32)), .val (.int (((0 : Int32) + (0 : Int32)) + (1 : Int32)))] [(.int (1 : Int32))])) _
    refine XS.goto X3.here hx rfl (pc0 := 102) (pc' := 106) rfl (hb hby at_102) (by decide) (by decide) ?_
    show Steps p.tables e below (T3.setTop (mkF m 106 #[.val (.int p0), .val (.int (6 : Int32)), .val (.ref c2), .val (.int (1 : Int32)), .val (.int (1 : Int32)), .val (.int (0 : Int32)), .val (.int (0 : Int32)), .val (.int (((0 : Int32) + (0 : Int32)) + (1 : Int32)))] [(.int (1 : Int32))])) _
    exact retN X3 hx (t := .boolean) Bd.returns (by simp) (hb hby at_106) hr
  · show own_Q _ h0 n0 _ T3.heap _
    exact ⟨rfl, N3, e3⟩
theorem own_i32 {z k : Int32} (h : z.toInt = k.toInt) : z = k := Int32.toInt_inj.mp h
theorem own_sp0 (p0 : Int32) : ((p0 &&& (2147483647 : Int32)) % (7 : Int32)) = (0 : Int32) ∨ ((p0 &&& (2147483647 : Int32)) % (7 : Int32)) = (1 : Int32) ∨ ((p0 &&& (2147483647 : Int32)) % (7 : Int32)) = (2 : Int32) ∨ ((p0 &&& (2147483647 : Int32)) % (7 : Int32)) = (3 : Int32) ∨ ((p0 &&& (2147483647 : Int32)) % (7 : Int32)) = (4 : Int32) ∨ ((p0 &&& (2147483647 : Int32)) % (7 : Int32)) = (5 : Int32) ∨ ((p0 &&& (2147483647 : Int32)) % (7 : Int32)) = (6 : Int32) := by
  have h := c_and p0 (2147483647 : Int32) (by decide)
  have h2 := (c_irem (p0 &&& (2147483647 : Int32)) (7 : Int32) 7 (by decide)).1 h.1
  have hr : ((p0 &&& (2147483647 : Int32)) % (7 : Int32)).toInt = 0 ∨ ((p0 &&& (2147483647 : Int32)) % (7 : Int32)).toInt = 1 ∨ ((p0 &&& (2147483647 : Int32)) % (7 : Int32)).toInt = 2 ∨ ((p0 &&& (2147483647 : Int32)) % (7 : Int32)).toInt = 3 ∨ ((p0 &&& (2147483647 : Int32)) % (7 : Int32)).toInt = 4 ∨ ((p0 &&& (2147483647 : Int32)) % (7 : Int32)).toInt = 5 ∨ ((p0 &&& (2147483647 : Int32)) % (7 : Int32)).toInt = 6 := by rw [h2]; omega
  rcases hr with q | q | q | q | q | q | q
  · exact Or.inl (own_i32 q)
  · exact Or.inr (Or.inl (own_i32 q))
  · exact Or.inr (Or.inr (Or.inl (own_i32 q)))
  · exact Or.inr (Or.inr (Or.inr (Or.inl (own_i32 q))))
  · exact Or.inr (Or.inr (Or.inr (Or.inr (Or.inl (own_i32 q)))))
  · exact Or.inr (Or.inr (Or.inr (Or.inr (Or.inr (Or.inl (own_i32 q))))))
  · exact Or.inr (Or.inr (Or.inr (Or.inr (Or.inr (Or.inr (own_i32 q))))))
theorem own_law (l : Launch) (Z : State) (a0 : Array Value) (hw : ∀ d ∈ tables_1, d.before a0 Z = true) (ws : List Jvm.Cond) (p0 : Int32) (c0 c1 c2 c3 c4 c5 c6 : Addr) (h0 : Heap) (n0 : Nat) (Z0 : n0 ≤ h0.size) (K : own_W Z h0 c0 c1 c2 c3 c4 c5 c6) :
    MetFree l x (head1 (Jvm.Cond.code x code maxLocals ret :: ws) room_1) (fun a U => a = #[(.int p0)] ∧ Z.Warmed39 U.vm ∧ U.heap = h0) (fun _ _ _ _ _ => True) (fun _ U o U' => ∃ v L, o = .returned v ∧ own_Q (.int (1 : Int32)) h0 n0 v U'.heap L ∧ FrameEnd U o U' L room_1.cells room_1.slots) := by
  rcases own_sp0 p0 with q0 | q0 | q0 | q0 | q0 | q0 | q0
  · exact own_r0_0 l Z a0 hw ws p0 c0 c1 c2 c3 c4 c5 c6 h0 n0 Z0 K q0
  · exact own_r0_1 l Z a0 hw ws p0 c0 c1 c2 c3 c4 c5 c6 h0 n0 Z0 K q0
  · exact own_r0_2 l Z a0 hw ws p0 c0 c1 c2 c3 c4 c5 c6 h0 n0 Z0 K q0
  · exact own_r0_3 l Z a0 hw ws p0 c0 c1 c2 c3 c4 c5 c6 h0 n0 Z0 K q0
  · exact own_r0_4 l Z a0 hw ws p0 c0 c1 c2 c3 c4 c5 c6 h0 n0 Z0 K q0
  · exact own_r0_5 l Z a0 hw ws p0 c0 c1 c2 c3 c4 c5 c6 h0 n0 Z0 K q0
  · exact own_r0_6 l Z a0 hw ws p0 c0 c1 c2 c3 c4 c5 c6 h0 n0 Z0 K q0
theorem own_int {args : Array Value} {first s : State} {o : Option Outcome} {idx : List Nat} {t : Term} {k : Int32} (h : (Jvm.Cond.eq t (.int k)).value args first o s idx = some true) : t.eval args first o idx s = some (.int k) := by
  simp only [Cond.value, Term.eval] at h; cases ht : t.eval args first o idx s with | none => simp [ht] at h | some x => cases x <;> simp [ht] at h ⊢; exact h
theorem own_ref {args : Array Value} {first s : State} {o : Option Outcome} {idx : List Nat} {t t' : Term} {a : Addr} (h : (Jvm.Cond.eq t t').value args first o s idx = some true) (ev : t'.eval args first o idx s = some (.ref a)) : t.eval args first o idx s = some (.ref a) := by
  simp only [Cond.value, ev] at h; cases ht : t.eval args first o idx s with | none => simp [ht] at h | some x => cases x <;> simp [ht] at h ⊢; exact h
set_option maxRecDepth 65536 in
set_option maxHeartbeats 40000000 in
theorem comes_1 {Post : Tables → Env → Array Value → State → Outcome → State → Prop} (hpost : ∀ tb e args s v u, (limb_1_1.after args s (.returned v) u = true ∧ limb_1_2.after args s (.returned v) u = true ∧ True) → FrameEnd s (.returned v) u (Jvm.fieldLocs frame_1_writes args s ++ Jvm.arrayLocs frame_1_arrays args s ++ Jvm.staticLocs frame_1_statics s) 0 0 → Post tb e args s (.returned v) u) :
    ArmFor flags0 classFile x code maxLocals ret World_1 tables_1 room_1 Calls_1 rest_1 Pre_1 Post := by
  intro l hfl _ _ p e ha hc hk s m args below hf hA hF happ hP
  obtain ⟨hcalls, hrest, hpre⟩ := hP
  obtain ⟨-, -, -, hnamed, -, -, -, hat⟩ := (Spec.applies_iff hf).mp happ
  obtain ⟨hg, hn⟩ := and_e (Cond.before_iff.mp (show (Jvm.Cond.and given_1 narrow_1).before args s = true from hpre))
  obtain ⟨g0, hg⟩ := and_e hg
  have g1 := hg
  obtain ⟨w0, rfl⟩ : ∃ w0 : Value, args = #[w0] := by
    have hs : args.size = 1 := by simpa [Cond.value, given_1] using g0
    obtain ⟨L⟩ := args
    match L, hs with
    | [w0], _ => exact ⟨w0, rfl⟩
  have hw := fun d (hd : d ∈ tables_1) => atoms_spec (ws := Jvm.Cond.code x code maxLocals ret :: tables_1) hat d (List.mem_cons_of_mem _ hd)
  obtain ⟨i0, ei0⟩ := is_v g1
  obtain rfl : w0 = (.int i0) := Option.some.inj ei0
  obtain ⟨j0, hn⟩ := and_e hn
  obtain ⟨j1, hn⟩ := and_e hn
  obtain ⟨j2, hn⟩ := and_e hn
  obtain ⟨j3, hn⟩ := and_e hn
  obtain ⟨j4, hn⟩ := and_e hn
  obtain ⟨j5, hn⟩ := and_e hn
  obtain ⟨j6, hn⟩ := and_e hn
  obtain ⟨j7, hn⟩ := and_e hn
  obtain ⟨j8, hn⟩ := and_e hn
  obtain ⟨j9, hn⟩ := and_e hn
  obtain ⟨j10, hn⟩ := and_e hn
  obtain ⟨j11, hn⟩ := and_e hn
  obtain ⟨j12, hn⟩ := and_e hn
  have j13 := hn
  obtain ⟨c0, v0⟩ := exa_v j0
  have E0 := Exa.start v0 j0
  have S0 := Sta.start v0 (Or.inr ⟨(hw _ (List.mem_of_getElem? (i := 6) rfl)), (hw _ (List.mem_of_getElem? (i := 7) rfl))⟩)
  obtain ⟨c1, v1⟩ := exa_v j1
  have E1 := Exa.start v1 j1
  have S1 := Sta.start v1 (Or.inr ⟨(hw _ (List.mem_of_getElem? (i := 6) rfl)), (hw _ (List.mem_of_getElem? (i := 14) rfl))⟩)
  obtain ⟨c2, v2⟩ := exa_v j4
  have E2 := Exa.start v2 j4
  have S2 := Sta.start v2 (Or.inr ⟨(hw _ (List.mem_of_getElem? (i := 6) rfl)), (hw _ (List.mem_of_getElem? (i := 16) rfl))⟩)
  obtain ⟨c3, v3⟩ := exa_v j6
  have E3 := Exa.start v3 j6
  have S3 := Sta.start v3 (Or.inr ⟨(hw _ (List.mem_of_getElem? (i := 6) rfl)), (hw _ (List.mem_of_getElem? (i := 24) rfl))⟩)
  obtain ⟨c4, v4⟩ := exa_v j8
  have E4 := Exa.start v4 j8
  have S4 := Sta.start v4 (Or.inr ⟨(hw _ (List.mem_of_getElem? (i := 6) rfl)), (hw _ (List.mem_of_getElem? (i := 29) rfl))⟩)
  obtain ⟨c5, v5⟩ := exa_v j10
  have E5 := Exa.start v5 j10
  have S5 := Sta.start v5 (Or.inr ⟨(hw _ (List.mem_of_getElem? (i := 6) rfl)), (hw _ (List.mem_of_getElem? (i := 31) rfl))⟩)
  obtain ⟨c6, v6⟩ := exa_v j12
  have E6 := Exa.start v6 j12
  have S6 := Sta.start v6 (Or.inr ⟨(hw _ (List.mem_of_getElem? (i := 6) rfl)), (hw _ (List.mem_of_getElem? (i := 33) rfl))⟩)
  have F0 := Fld.start ((fld_at v0).symm.trans (own_int j2))
  have F1 := Fld.start ((fld_at v1).symm.trans (own_int j3))
  have F2 := Fld.start ((fld_at v2).symm.trans (own_int j5))
  have F3 := Fld.start ((fld_at v3).symm.trans (own_int j7))
  have F4 := Fld.start ((fld_at v4).symm.trans (own_int j9))
  have F5 := Fld.start ((fld_at v5).symm.trans (own_int j11))
  have F6 := Fld.start ((fld_at v6).symm.trans (own_int j13))
  obtain ⟨n, o, h1, h2, h3, _, L, rfl, ⟨rfl, N, -⟩, hq⟩ := own_law l s _ hw tables_1 i0 c0 c1 c2 c3 c4 c5 c6 s.heap s.heap.size (Nat.le_refl _) ⟨S0, E0, S1, E1, S2, E2, S3, E3, S4, E4, S5, E5, S6, E6, F0, F1, F2, F3, F4, F5, F6⟩ p e ha hc hk s m _ below hf ((Spec.applies_iff_loose hf).mp happ).1 ⟨rfl, State.Warmed39.refl s, rfl⟩ trivial
  refine ⟨n, _, h1, h2, h3, hpost _ _ _ _ _ _ ⟨Cond.after_iff.mpr rfl, Cond.after_iff.mpr (eq_i res_at (Term.int_eval (1)) rfl), trivial⟩ ⟨hq.1, hq.2.1, (hq.2.2.sift fun y hy => Or.inr (N y hy)).mono (by decide) (by decide)⟩⟩
theorem main_1_1 : Claimed_1_1 := comes_1 fun _ _ _ _ _ _ h hF => ⟨h.1, hF⟩
theorem main_1_2 : Claimed_1_2 := comes_1 fun _ _ _ _ _ _ h hF => ⟨h.2.1, hF⟩
end Jvm.Pilot.@@N@@
namespace Jvm.Pilot.@@N@@
open Jvm Jvm.ClassFile Sem Op Lib Jvm.Free Jvm.Stand Jvm.Pilot.@@N@@.Jvm.D
/-! MADE BY PROGRAM (witnessworld.py) out of the Statement's table words and the real class files: 12 classes; the members and pool entries that the words name. The judged class is class 1, her method 1. -/
namespace start1
open Jvm.ClassFile
def u (s : String) : CpInfo := .utf8 (stringToUtf16 s)
/-- a pool by its gaps: so many unusable entries, then the entry; so many at the end -/
def gap : Nat → List CpInfo → List CpInfo
  | 0, r => r
  | n + 1, r => .unusable :: gap n r
def poolList (es : List (Nat × CpInfo)) (last : Nat) : List CpInfo := es.foldr (fun e r => gap e.1 (e.2 :: r)) (gap last [])
def pool (es : List (Nat × CpInfo)) (last : Nat) : Array CpInfo := ⟨poolList es last⟩
def fileOf (pool : Array CpInfo) (this : Nat) (attrs : Array Attribute := #[]) (ms : Array MethodInfo := #[]) (fl : Nat := 33) (sup : Nat := 0) (ifs : Array Nat := #[]) (fds : Array FieldInfo := #[]) : ClassFile where
  minorVersion := 0
  majorVersion := 65
  constantPool := pool
  accessFlags := fl
  thisClass := this
  superClass := sup
  interfaces := ifs
  fields := fds
  methods := ms
  attributes := attrs
def plain (name : String) (sup : Option ClassId) : Class where
  name := name
  kind := .ordinary
  loader := none
  accessFlags := 33
  super := sup
  interfaces := #[]
  cf := none
  fields := #[]
  methods := #[]
  instanceTypes := #[]
  staticTypes := #[]
  resolved := #[]
  callSites := []
  init := .initialized
  statics := none
  mirror := none

def pool0 : Array CpInfo := pool [(5, u "<init>"), (0, u "()V"), (1, .class_ 10), (1, u "java/lang/Object")] 113

def k0m0 : Method := { name := "<init>", desc := "()V", sig := { parameters := [], returnType := none }, accessFlags := 1, code := none }
/-- java/lang/Object -/
def k0 : Class := { plain "java/lang/Object" none with
  accessFlags := 33
  interfaces := #[]
  cf := some (fileOf pool0 8 #[] #[{ accessFlags := 1, nameIndex := 5, descriptorIndex := 6, attributes := #[] }] 33 0 #[] #[])
  fields := #[]
  methods := #[k0m0]
  instanceTypes := #[]
  staticTypes := #[]
  resolved := Array.replicate 124 none
  statics := none }

def pool1 : Array CpInfo := pool [(2, .class_ 4), (1, u "java/lang/Object"), (0, u "<init>"), (0, u "()V"), (0, .integer 2147483647), (0, .methodref 9 10), (0, .class_ 11), (0, .nameAndType 12 13), (0, u "com/example/wengao/wengao/mapping/AuditRoleIsStampedOnDeletePinLaw"), (0, u "pick"), (0, u "(I)Lcom/example/wengao/wengao/mapping/AuditRole;"), (0, .methodref 15 16), (0, .class_ 17), (0, .nameAndType 18 19), (0, u "com/example/wengao/wengao/mapping/AuditRole"), (0, u "isStampedOnDelete"), (0, u "()Z"), (0, .methodref 15 21), (0, .nameAndType 22 19), (0, u "isStampedOnSave"), (0, .fieldref 15 24), (0, .nameAndType 25 26), (0, u "NONE"), (0, u "Lcom/example/wengao/wengao/mapping/AuditRole;"), (0, .fieldref 15 28), (0, .nameAndType 29 26), (0, u "CREATED_AT"), (0, .fieldref 15 31), (0, .nameAndType 32 26), (0, u "CREATED_BY"), (0, .fieldref 15 34), (0, .nameAndType 35 26), (0, u "MODIFIED_AT"), (0, .fieldref 15 37), (0, .nameAndType 38 26), (0, u "MODIFIED_BY"), (0, .fieldref 15 40), (0, .nameAndType 41 26), (0, u "DELETED_AT"), (0, .fieldref 15 43), (0, .nameAndType 44 26), (0, u "DELETED_BY"), (2, u "law"), (0, u "(I)Z")] 3

def k1m0 : Method := { name := "<init>", desc := "()V", sig := { parameters := [], returnType := none }, accessFlags := 2, code := none }
def k1c1 : Code := { maxStack := 2, maxLocals := 8, code := code, exceptionTable := #[], attributes := #[] }
def k1m1 : Method := { name := "law", desc := "(I)Z", sig := { parameters := [.int], returnType := some .boolean }, accessFlags := 9, code := some k1c1 }
def k1c2 : Code := { maxStack := 2, maxLocals := 1, code := method_3_code, exceptionTable := #[], attributes := #[] }
def k1m2 : Method := { name := "pick", desc := "(I)Lcom/example/wengao/wengao/mapping/AuditRole;", sig := { parameters := [.int], returnType := some (.object "com/example/wengao/wengao/mapping/AuditRole") }, accessFlags := 10, code := some k1c2 }
/-- com/example/wengao/wengao/mapping/AuditRoleIsStampedOnDeletePinLaw -/
def k1 : Class := { plain "com/example/wengao/wengao/mapping/AuditRoleIsStampedOnDeletePinLaw" (some 0) with
  accessFlags := 49
  interfaces := #[]
  cf := some (fileOf pool1 9 #[] #[{ accessFlags := 2, nameIndex := 5, descriptorIndex := 6, attributes := #[] }, { accessFlags := 9, nameIndex := 47, descriptorIndex := 48, attributes := #[] }, { accessFlags := 10, nameIndex := 12, descriptorIndex := 13, attributes := #[] }] 49 2 #[] #[])
  fields := #[]
  methods := #[k1m0, k1m1, k1m2]
  instanceTypes := #[]
  staticTypes := #[]
  resolved := Array.replicate 52 none
  statics := none }

def pool2 : Array CpInfo := pool [(1, .class_ 2), (0, u "java/lang/constant/Constable"), (0, .class_ 4), (0, u "java/lang/Object")] 6

/-- java/lang/constant/Constable -/
def k2 : Class := { plain "java/lang/constant/Constable" (some 0) with
  accessFlags := 1537
  interfaces := #[]
  cf := some (fileOf pool2 1 #[] #[] 1537 3 #[] #[])
  fields := #[]
  methods := #[]
  instanceTypes := #[]
  staticTypes := #[]
  resolved := Array.replicate 11 none
  statics := none }

def pool3 : Array CpInfo := pool [(1, .class_ 2), (0, u "java/lang/Comparable"), (0, .class_ 4), (0, u "java/lang/Object")] 7

/-- java/lang/Comparable -/
def k3 : Class := { plain "java/lang/Comparable" (some 0) with
  accessFlags := 1537
  interfaces := #[]
  cf := some (fileOf pool3 1 #[] #[] 1537 3 #[] #[])
  fields := #[]
  methods := #[]
  instanceTypes := #[]
  staticTypes := #[]
  resolved := Array.replicate 12 none
  statics := none }

def pool4 : Array CpInfo := pool [(1, .class_ 2), (0, u "java/io/Serializable"), (0, .class_ 4), (0, u "java/lang/Object")] 2

/-- java/io/Serializable -/
def k4 : Class := { plain "java/io/Serializable" (some 0) with
  accessFlags := 1537
  interfaces := #[]
  cf := some (fileOf pool4 1 #[] #[] 1537 3 #[] #[])
  fields := #[]
  methods := #[]
  instanceTypes := #[]
  staticTypes := #[]
  resolved := Array.replicate 7 none
  statics := none }

def pool5 : Array CpInfo := pool [(2, .class_ 4), (1, u "java/lang/Enum"), (0, u "name"), (0, u "Ljava/lang/String;"), (2, u "ordinal"), (0, u "I"), (1, .class_ 14), (1, u "java/lang/Object"), (4, u "hash"), (86, .class_ 108), (1, u "java/lang/Enum$EnumDesc"), (2, .class_ 112), (0, u "java/lang/constant/Constable"), (0, .class_ 114), (0, u "java/lang/Comparable"), (0, .class_ 116), (0, u "java/io/Serializable")] 87

/-- java/lang/Enum -/
def k5 : Class := { plain "java/lang/Enum" (some 0) with
  accessFlags := 1057
  interfaces := #[2, 3, 4]
  cf := some (fileOf pool5 2 #[.nestMembers #[106]] #[] 1057 12 #[111, 113, 115] #[{ accessFlags := 18, nameIndex := 5, descriptorIndex := 6, attributes := #[] }, { accessFlags := 18, nameIndex := 9, descriptorIndex := 10, attributes := #[] }, { accessFlags := 2, nameIndex := 19, descriptorIndex := 10, attributes := #[] }])
  fields := #[{ name := "name", type := (.object "java/lang/String"), accessFlags := 18, slot := 0, constantValue := 0 }, { name := "ordinal", type := .int, accessFlags := 18, slot := 1, constantValue := 0 }, { name := "hash", type := .int, accessFlags := 2, slot := 2, constantValue := 0 }]
  methods := #[]
  instanceTypes := #[(.object "java/lang/String"), .int, .int]
  staticTypes := #[]
  resolved := Array.replicate 204 none
  statics := none }

def pool6 : Array CpInfo := pool [(1, .class_ 2), (0, u "com/example/wengao/wengao/mapping/AuditRole"), (0, .fieldref 1 4), (0, .nameAndType 5 6), (0, u "NONE"), (0, u "Lcom/example/wengao/wengao/mapping/AuditRole;"), (2, u "CREATED_AT"), (2, u "CREATED_BY"), (2, u "MODIFIED_AT"), (2, u "MODIFIED_BY"), (0, .fieldref 1 20), (0, .nameAndType 21 6), (0, u "DELETED_AT"), (0, .fieldref 1 23), (0, .nameAndType 24 6), (0, u "DELETED_BY"), (2, u "$VALUES"), (0, u "[Lcom/example/wengao/wengao/mapping/AuditRole;"), (6, .class_ 37), (1, u "java/lang/Enum"), (8, u "mark"), (0, u "Ljava/lang/Class;"), (2, u "valueType"), (22, .methodref 1 74), (0, .nameAndType 75 76), (0, u "isStampedOnDelete"), (0, u "()Z"), (44, u "isStampedOnSave")] 28

def k6c0 : Code := { maxStack := 2, maxLocals := 1, code := prog_21_method_7_code, exceptionTable := #[], attributes := #[] }
def k6m0 : Method := { name := "isStampedOnSave", desc := "()Z", sig := { parameters := [], returnType := some .boolean }, accessFlags := 1, code := some k6c0 }
def k6c1 : Code := { maxStack := 2, maxLocals := 1, code := prog_21_method_9_code, exceptionTable := #[], attributes := #[] }
def k6m1 : Method := { name := "isStampedOnDelete", desc := "()Z", sig := { parameters := [], returnType := some .boolean }, accessFlags := 1, code := some k6c1 }
/-- com/example/wengao/wengao/mapping/AuditRole -/
def k6 : Class := { plain "com/example/wengao/wengao/mapping/AuditRole" (some 5) with
  accessFlags := 16433
  interfaces := #[]
  cf := some (fileOf pool6 1 #[] #[{ accessFlags := 1, nameIndex := 121, descriptorIndex := 76, attributes := #[] }, { accessFlags := 1, nameIndex := 75, descriptorIndex := 76, attributes := #[] }] 16433 35 #[] #[{ accessFlags := 16409, nameIndex := 5, descriptorIndex := 6, attributes := #[] }, { accessFlags := 16409, nameIndex := 9, descriptorIndex := 6, attributes := #[] }, { accessFlags := 16409, nameIndex := 12, descriptorIndex := 6, attributes := #[] }, { accessFlags := 16409, nameIndex := 15, descriptorIndex := 6, attributes := #[] }, { accessFlags := 16409, nameIndex := 18, descriptorIndex := 6, attributes := #[] }, { accessFlags := 16409, nameIndex := 21, descriptorIndex := 6, attributes := #[] }, { accessFlags := 16409, nameIndex := 24, descriptorIndex := 6, attributes := #[] }, { accessFlags := 18, nameIndex := 46, descriptorIndex := 47, attributes := #[] }, { accessFlags := 18, nameIndex := 50, descriptorIndex := 47, attributes := #[] }, { accessFlags := 4122, nameIndex := 27, descriptorIndex := 28, attributes := #[] }])
  fields := #[{ name := "NONE", type := (.object "com/example/wengao/wengao/mapping/AuditRole"), accessFlags := 16409, slot := 0, constantValue := 0 }, { name := "CREATED_AT", type := (.object "com/example/wengao/wengao/mapping/AuditRole"), accessFlags := 16409, slot := 1, constantValue := 0 }, { name := "CREATED_BY", type := (.object "com/example/wengao/wengao/mapping/AuditRole"), accessFlags := 16409, slot := 2, constantValue := 0 }, { name := "MODIFIED_AT", type := (.object "com/example/wengao/wengao/mapping/AuditRole"), accessFlags := 16409, slot := 3, constantValue := 0 }, { name := "MODIFIED_BY", type := (.object "com/example/wengao/wengao/mapping/AuditRole"), accessFlags := 16409, slot := 4, constantValue := 0 }, { name := "DELETED_AT", type := (.object "com/example/wengao/wengao/mapping/AuditRole"), accessFlags := 16409, slot := 5, constantValue := 0 }, { name := "DELETED_BY", type := (.object "com/example/wengao/wengao/mapping/AuditRole"), accessFlags := 16409, slot := 6, constantValue := 0 }, { name := "mark", type := (.object "java/lang/Class"), accessFlags := 18, slot := 3, constantValue := 0 }, { name := "valueType", type := (.object "java/lang/Class"), accessFlags := 18, slot := 4, constantValue := 0 }, { name := "$VALUES", type := (.array (.object "com/example/wengao/wengao/mapping/AuditRole")), accessFlags := 4122, slot := 7, constantValue := 0 }]
  methods := #[k6m0, k6m1]
  instanceTypes := #[(.object "java/lang/String"), .int, .int, (.object "java/lang/Class"), (.object "java/lang/Class")]
  staticTypes := #[(.object "com/example/wengao/wengao/mapping/AuditRole"), (.object "com/example/wengao/wengao/mapping/AuditRole"), (.object "com/example/wengao/wengao/mapping/AuditRole"), (.object "com/example/wengao/wengao/mapping/AuditRole"), (.object "com/example/wengao/wengao/mapping/AuditRole"), (.object "com/example/wengao/wengao/mapping/AuditRole"), (.object "com/example/wengao/wengao/mapping/AuditRole"), (.array (.object "com/example/wengao/wengao/mapping/AuditRole"))]
  resolved := Array.replicate 150 none
  statics := some 0 }

def pool7 : Array CpInfo := pool [(1, u "java/lang/Cloneable"), (0, .class_ 1), (0, u "java/lang/Object"), (0, .class_ 3)] 3

/-- java/lang/Cloneable -/
def k7 : Class := { plain "java/lang/Cloneable" (some 0) with
  accessFlags := 1537
  interfaces := #[]
  cf := some (fileOf pool7 2 #[] #[] 1537 4 #[] #[])
  fields := #[]
  methods := #[]
  instanceTypes := #[]
  staticTypes := #[]
  resolved := Array.replicate 8 none
  statics := none }

/-- the primitive byte -/
def k8 : Class := { plain "byte" none with kind := .primitive 'B', accessFlags := 0x411 }
/-- [B -/
def k9 : Class := { plain "[B" (some 0) with kind := .array 8 .byte, interfaces := #[7, 4], accessFlags := 1041 }

/-- the primitive int -/
def k10 : Class := { plain "int" none with kind := .primitive 'I', accessFlags := 0x411 }
/-- [I -/
def k11 : Class := { plain "[I" (some 0) with kind := .array 10 .int, interfaces := #[7, 4], accessFlags := 1041 }

def heap : Heap := #[{ cls := 6, slots := #[.ref 1, .ref 7, .ref 6, .ref 4, .ref 5, .ref 2, .ref 3, .null], vm := .statics 6 },
  { cls := 6, slots := #[.null, .int 0, .int 0, .null, .null], vm := .none },
  { cls := 6, slots := #[.null, .int 5, .int 0, .null, .null], vm := .none },
  { cls := 6, slots := #[.null, .int 6, .int 0, .null, .null], vm := .none },
  { cls := 6, slots := #[.null, .int 3, .int 0, .null, .null], vm := .none },
  { cls := 6, slots := #[.null, .int 4, .int 0, .null, .null], vm := .none },
  { cls := 6, slots := #[.null, .int 2, .int 0, .null, .null], vm := .none },
  { cls := 6, slots := #[.null, .int 1, .int 0, .null, .null], vm := .none }]
def classes : Array Class := #[k0, k1, k2, k3, k4, k5, k6, k7, k8, k9, k10, k11]
def interned : List (Array UInt16 × Addr) := []
def slotsUsed : Nat := 43
def theMethod : MethodId := ⟨1, 1⟩
def args0 : Array Value := #[.int 5]
def aboutOver (below : List Frame) : State where
  vm := { classes := classes, interned := interned.toArray }
  heap := heap
  slotsUsed := slotsUsed
  threads := #[{ frames := .invoking theMethod args0 :: below }]
def below0 : List Frame := [.native { method := ⟨0, 0⟩, args := #[] }]
def about1 : State := aboutOver below0
def p0 : Program := .bare "" "" ""
def e0 : Env := launch0.env 0 0 0
theorem w_frames : about1.frames = Frame.invoking theMethod args0 :: below0 := rfl
set_option maxRecDepth 65536 in
theorem w_args : argsFit about1.vm theMethod args0 = true := by decide +kernel
set_option maxRecDepth 65536 in
theorem w_heap : heapFits about1 = true := by decide +kernel
set_option maxRecDepth 65536 in
theorem w_runnable : about1.curStatus? = some .runnable := by decide +kernel
set_option maxRecDepth 65536 in
theorem w_alone : about1.alone = true := by decide +kernel
set_option maxRecDepth 65536 in
theorem w_named : about1.methodNamed? x = some theMethod := by decide +kernel
set_option maxRecDepth 65536 in
theorem w_hears : about1.hears theMethod below0 = true := by decide +kernel
set_option maxRecDepth 65536 in
theorem w_ripe : about1.ripe theMethod args0 below0 = true := by decide +kernel
theorem w_running : about1.status = .running := rfl
set_option maxRecDepth 65536 in
theorem w_room : about1.hasRoom e0.platform room_1 = true :=
  launch0.hasRoom_least _ room_1 (by decide +kernel) (by decide +kernel) (by decide +kernel) (by decide +kernel) (by decide +kernel) (by decide +kernel)
theorem allAtoms_all (ts : List Jvm.Cond) (a : Array Jvm.Value) (st : Jvm.State) : (allAtoms ts).before a st = ts.all (fun c => c.before a st) := by
  induction ts with
  | nil => rfl
  | cons c t ih =>
    show (Jvm.Cond.and c (allAtoms t)).before a st = _
    rw [Jvm.Cond.before_and, ih, List.all_cons]
def words1 : List Jvm.Cond := Jvm.Cond.code x code maxLocals ret :: tables_1
/-- a 'code' word, met by the world's own term for the bytes: nothing is compared byte by byte -/
theorem code_word {y : MethodName} {bytes : ByteArray} {mx : Nat} {rt : Option FieldType} {a : Array Value} {s : State} {m : MethodId} {meth : Method} {c : Code} (h1 : s.methodNamed? y = some m) (h2 : s.vm.method? m = some meth) (h3 : meth.code = some c) (h4 : c.code = bytes)
    (h5 : (c.maxLocals == mx && c.exceptionTable.isEmpty && decide (c.maxStack ≤ mostOperands) && decide (meth.sig.returnType = rt) && !meth.locks && decide (parseMethodDescriptor y.desc = some meth.sig)) = true) : (Jvm.Cond.code y bytes mx rt).before a s = true := by
  simp only [Bool.and_eq_true, beq_iff_eq, Bool.not_eq_true', decide_eq_true_eq] at h5
  obtain ⟨⟨⟨⟨⟨g1, g2⟩, g3⟩, g4⟩, g5⟩, g6⟩ := h5
  simp [Cond.before, Cond.holds, Cond.value, h1, h2, h3, h4, g1, g2, g3, g4, g5, g6]
def isCode : Jvm.Cond → Bool
  | .code _ _ _ _ => true
  | _ => false
theorem all_split {L : List Jvm.Cond} {P : Jvm.Cond → Bool} (h1 : L.all (fun c => isCode c || P c) = true) (h2 : ∀ c ∈ L.filter isCode, P c = true) : L.all P = true := by
  refine List.all_eq_true.mpr fun c hc => ?_
  have h := List.all_eq_true.mp h1 c hc
  rcases Bool.eq_false_or_eq_true (isCode c) with hi | hi
  · exact h2 c (List.mem_filter.mpr ⟨hc, hi⟩)
  · simpa [hi] using h
set_option maxRecDepth 65536 in
theorem w_c0 : (Jvm.Cond.code x code maxLocals ret).before args0 about1 = true := code_word (m := ⟨1, 1⟩) (meth := k1m1) (c := k1c1) (by decide +kernel) rfl rfl rfl (by decide +kernel)
set_option maxRecDepth 65536 in
theorem w_c1 : (Jvm.Cond.code ({ cls := "com/example/wengao/wengao/mapping/AuditRoleIsStampedOnDeletePinLaw", name := "pick", desc := "(I)Lcom/example/wengao/wengao/mapping/AuditRole;" } : Jvm.MethodName) method_3_code (1 : Nat) (Option.some (Jvm.ClassFile.FieldType.object "com/example/wengao/wengao/mapping/AuditRole"))).before args0 about1 = true := code_word (m := ⟨1, 2⟩) (meth := k1m2) (c := k1c2) (by decide +kernel) rfl rfl rfl (by decide +kernel)
set_option maxRecDepth 65536 in
theorem w_c2 : (Jvm.Cond.code ({ cls := "com/example/wengao/wengao/mapping/AuditRole", name := "isStampedOnDelete", desc := "()Z" } : Jvm.MethodName) prog_21_method_9_code (1 : Nat) (Option.some Jvm.ClassFile.FieldType.boolean)).before args0 about1 = true := code_word (m := ⟨6, 1⟩) (meth := k6m1) (c := k6c1) (by decide +kernel) rfl rfl rfl (by decide +kernel)
set_option maxRecDepth 65536 in
theorem w_c3 : (Jvm.Cond.code ({ cls := "com/example/wengao/wengao/mapping/AuditRole", name := "isStampedOnSave", desc := "()Z" } : Jvm.MethodName) prog_21_method_7_code (1 : Nat) (Option.some Jvm.ClassFile.FieldType.boolean)).before args0 about1 = true := code_word (m := ⟨6, 0⟩) (meth := k6m0) (c := k6c0) (by decide +kernel) rfl rfl rfl (by decide +kernel)
def codes1 : List Jvm.Cond := [Jvm.Cond.code x code maxLocals ret, Jvm.Cond.code ({ cls := "com/example/wengao/wengao/mapping/AuditRoleIsStampedOnDeletePinLaw", name := "pick", desc := "(I)Lcom/example/wengao/wengao/mapping/AuditRole;" } : Jvm.MethodName) method_3_code (1 : Nat) (Option.some (Jvm.ClassFile.FieldType.object "com/example/wengao/wengao/mapping/AuditRole")), Jvm.Cond.code ({ cls := "com/example/wengao/wengao/mapping/AuditRole", name := "isStampedOnDelete", desc := "()Z" } : Jvm.MethodName) prog_21_method_9_code (1 : Nat) (Option.some Jvm.ClassFile.FieldType.boolean), Jvm.Cond.code ({ cls := "com/example/wengao/wengao/mapping/AuditRole", name := "isStampedOnSave", desc := "()Z" } : Jvm.MethodName) prog_21_method_7_code (1 : Nat) (Option.some Jvm.ClassFile.FieldType.boolean)]
set_option maxRecDepth 65536 in
theorem codes_eq : words1.filter isCode = codes1 := rfl
theorem w_codes : ∀ c ∈ words1.filter isCode, c.before args0 about1 = true := by
  rw [codes_eq]
  intro c hc
  simp only [codes1, List.mem_cons, List.not_mem_nil, or_false] at hc
  rcases hc with rfl | rfl | rfl | rfl
  · exact w_c0
  · exact w_c1
  · exact w_c2
  · exact w_c3
set_option maxRecDepth 65536 in
theorem w_t1 : (words1.take 24).all (fun c => isCode c || c.before args0 about1) = true := by decide +kernel
set_option maxRecDepth 65536 in
theorem w_t2 : (words1.drop 24).all (fun c => isCode c || c.before args0 about1) = true := by decide +kernel
theorem w_tables : (allAtoms (Jvm.Cond.code x code maxLocals ret :: tables_1)).before args0 about1 = true := by
  rw [allAtoms_all]
  show words1.all (fun c => c.before args0 about1) = true
  refine all_split ?_ w_codes
  rw [← List.take_append_drop 24 words1, List.all_append, w_t1, w_t2]
  rfl
set_option maxRecDepth 65536 in
theorem w_case : (Jvm.Cond.and given_1 narrow_1).before args0 about1 = true := by decide +kernel
theorem w_applies : (headSpec (Jvm.Cond.code x code maxLocals ret :: tables_1) room_1).applies x e0.platform about1 = true :=
  (Spec.applies_iff w_frames).mpr ⟨w_running, w_runnable, w_alone, w_named, w_hears, w_ripe, w_room, w_tables⟩
theorem atStart : AtStart classFile x code maxLocals ret World_1 tables_1 room_1 Calls_1 rest_1 Pre_1 launch0 p0 e0 about1 theMethod args0 below0 :=
  ⟨lists_1, trivial, launch0.admits_env _ _ _, launch0.least_env, fairChoices_fair.cas, fairChoices_fair.clock, w_frames, w_args, w_heap, w_applies, trivial, trivial, w_case⟩
end start1
theorem witness_1 : WitnessClaimed_1 := ⟨start1.p0, start1.e0, start1.about1, start1.theMethod, start1.args0, start1.below0, start1.atStart⟩
end Jvm.Pilot.@@N@@
