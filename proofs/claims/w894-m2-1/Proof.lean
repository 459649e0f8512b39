import JvmDerived
import JvmDerived.Pilot.@@N@@Statement
import JvmDerived.Pilot.@@N@@Code
set_option linter.unusedVariables false
set_option linter.unusedSimpArgs false
namespace Jvm.RoadKit
open Sem ClassFile Op Lib Jvm.Stand Jvm.Free Jvm.LawKit
section New
variable {p : Program} {l : Launch} {e : Env} {R : Room} {s : State} {m : MethodId} {args : Array Value} {below : List Frame} {meth : Method} {c : Code} {T : State} {locs : List Loc} {cells slots : Nat}
theorem retI (X : Stand p l e R s m args below meth c T locs cells slots) (hx : p.tables.exec = Jvm.exec) {pc : Nat} {Ls : Array Slot} {z : Int32} {rest : List Value} (hret : meth.sig.returnType = some .int) (hd : decode c.code pc = .ok (.ireturn, 1)) {fs : List Frame}
    (hl : ∀ (f : JFrame) (acts : List Action), f.method = m → f.locked = none → f.entered = [] → (doReturn e (T.setTop f) acts (some (.int z))).1 = T.setFrames fs) : Steps p.tables e below (T.setTop (mkF m pc Ls (.int z :: rest))) (T.setFrames fs) := by
  have hm' : T.vm.method? m = some meth := X.method'
  have hn : narrow .int (.int z) = .int z := rfl
  show Steps p.tables e below (T.setTop { method := m, pc := pc, locals := Ls, stack := _ :: rest, locked := none }) _
  jvm_step X.here [X.here.top, hx, hd, hm', hret, hn]
  first | (intro acts; rw [hl _ acts rfl rfl rfl]) | rw [hl _ _ rfl rfl rfl]
  exact Steps.refl _
end New
end Jvm.RoadKit
namespace Jvm.Pilot.@@N@@
open Jvm Jvm.ClassFile Sem Op Lib Jvm.Free Jvm.Stand Jvm.LawKit Jvm.RoadKit Bundle Jvm.Pilot.@@N@@.Jvm.D
def own_W (Z : State) (h : Heap) (c0 c1 c2 c3 c4 c5 c6 c7 c8 c9 c10 c11 c12 c13 : Addr) : Prop := Sta Z h "com/example/midpoint/midpoint/rounding/Mode" "FLOOR" "Lcom/example/midpoint/midpoint/rounding/Mode;" (.ref c0) ∧ Exa Z h c0 "com/example/midpoint/midpoint/rounding/Mode$1" ∧ Sta Z h "com/example/midpoint/midpoint/rounding/Mode" "AWAY_FROM_ZERO" "Lcom/example/midpoint/midpoint/rounding/Mode;" (.ref c1) ∧ Exa Z h c1 "com/example/midpoint/midpoint/rounding/Mode$4" ∧ Sta Z h "com/example/midpoint/midpoint/rounding/Mode" "TOWARD_ZERO" "Lcom/example/midpoint/midpoint/rounding/Mode;" (.ref c2) ∧ Exa Z h c2 "com/example/midpoint/midpoint/rounding/Mode$3" ∧ Sta Z h "com/example/midpoint/midpoint/rounding/Mode" "CEILING" "Lcom/example/midpoint/midpoint/rounding/Mode;" (.ref c3) ∧ Exa Z h c3 "com/example/midpoint/midpoint/rounding/Mode$2" ∧ Sta Z h "com/example/midpoint/midpoint/rounding/Mode" "HALF_AWAY_FROM_ZERO" "Lcom/example/midpoint/midpoint/rounding/Mode;" (.ref c4) ∧ Exa Z h c4 "com/example/midpoint/midpoint/rounding/Mode$8" ∧ Sta Z h "com/example/midpoint/midpoint/rounding/Mode" "HALF_TO_FLOOR" "Lcom/example/midpoint/midpoint/rounding/Mode;" (.ref c5) ∧ Exa Z h c5 "com/example/midpoint/midpoint/rounding/Mode$5" ∧ Sta Z h "com/example/midpoint/midpoint/rounding/Mode" "HALF_TO_EVEN" "Lcom/example/midpoint/midpoint/rounding/Mode;" (.ref c6) ∧ Exa Z h c6 "com/example/midpoint/midpoint/rounding/Mode$9" ∧ Sta Z h "com/example/midpoint/midpoint/rounding/Mode" "HALF_TOWARD_ZERO" "Lcom/example/midpoint/midpoint/rounding/Mode;" (.ref c7) ∧ Exa Z h c7 "com/example/midpoint/midpoint/rounding/Mode$7" ∧ Sta Z h "com/example/midpoint/midpoint/rounding/Mode" "HALF_TO_CEILING" "Lcom/example/midpoint/midpoint/rounding/Mode;" (.ref c8) ∧ Exa Z h c8 "com/example/midpoint/midpoint/rounding/Mode$6" ∧ Sta Z h "java/math/RoundingMode" "DOWN" "Ljava/math/RoundingMode;" (.ref c9) ∧ Exa Z h c9 "java/math/RoundingMode" ∧ Sta Z h "java/math/RoundingMode" "UP" "Ljava/math/RoundingMode;" (.ref c10) ∧ Exa Z h c10 "java/math/RoundingMode" ∧ Sta Z h "java/math/RoundingMode" "HALF_UP" "Ljava/math/RoundingMode;" (.ref c11) ∧ Exa Z h c11 "java/math/RoundingMode" ∧ Sta Z h "java/math/RoundingMode" "HALF_DOWN" "Ljava/math/RoundingMode;" (.ref c12) ∧ Exa Z h c12 "java/math/RoundingMode" ∧ Sta Z h "java/math/RoundingMode" "HALF_EVEN" "Ljava/math/RoundingMode;" (.ref c13) ∧ Exa Z h c13 "java/math/RoundingMode" ∧ Fld Z h c9 "java/lang/Enum" "ordinal" "I" (.int (1 : Int32)) ∧ Fld Z h c10 "java/lang/Enum" "ordinal" "I" (.int (0 : Int32)) ∧ Fld Z h c11 "java/lang/Enum" "ordinal" "I" (.int (4 : Int32)) ∧ Fld Z h c12 "java/lang/Enum" "ordinal" "I" (.int (5 : Int32)) ∧ Fld Z h c13 "java/lang/Enum" "ordinal" "I" (.int (6 : Int32))
def own_Q (r : Value) (h0 : Heap) (n0 : Nat) (v : Option Value) (h : Heap) (L : List Loc) : Prop := v = some r ∧ Fr n0 L ∧ h = h0
theorem own_d1_0 : decode method_3_code 0 = .ok (.iload_n 0, 1) := by decide +kernel
theorem own_d1_1 : decode method_3_code 1 = .ok (.ifCond .ne 7, 3) := by decide +kernel
theorem own_d1_4 : decode method_3_code 4 = .ok (.getstatic 20, 3) := by decide +kernel
theorem own_d1_7 : decode method_3_code 7 = .ok (.areturn, 1) := by decide +kernel
theorem own_pn0 : plainName "com/example/midpoint/midpoint/rounding/ModeIsSymmetricPinLaw" = true := by first | (simp [plainName, overriddenIn]; done) | decide +kernel
theorem own_ef1 (m : MethodId) (x0 : Int32) : entryFrame m #[(.int x0)] 1 = mkF m 0 #[.val (.int x0)] [] := by first | (simp [entryFrame, mkF, argsToLocals, Value.category]; done) | rfl
set_option maxRecDepth 65536 in
set_option maxHeartbeats 40000000 in
theorem own_r1_0 (l : Launch) (Z : State) (a0 : Array Value) (hw : ∀ d ∈ tables_1, d.before a0 Z = true) (ws : List Jvm.Cond)  (c0 c1 c2 c3 c4 c5 c6 c7 c8 c9 c10 c11 c12 c13 : Addr) (h0 : Heap) (n0 : Nat) (Z0 : n0 ≤ h0.size) (K : own_W Z h0 c0 c1 c2 c3 c4 c5 c6 c7 c8 c9 c10 c11 c12 c13)  :
    MetFree l (⟨"com/example/midpoint/midpoint/rounding/ModeIsSymmetricPinLaw", "modeAt", "(I)Lcom/example/midpoint/midpoint/rounding/Mode;"⟩ : MethodName) (head1 (Jvm.Cond.code (⟨"com/example/midpoint/midpoint/rounding/ModeIsSymmetricPinLaw", "modeAt", "(I)Lcom/example/midpoint/midpoint/rounding/Mode;"⟩ : MethodName) method_3_code 1 (some (.object "com/example/midpoint/midpoint/rounding/Mode")) :: ws) ({ frames := 0, cells := 0, slots := 0, locals := 0 } : Room)) (fun a U => a = #[(.int (0 : Int32))] ∧ Z.Warmed39 U.vm ∧ U.heap = h0) (fun _ _ _ _ _ => True) (fun _ U o U' => ∃ v L, o = .returned v ∧ own_Q (.ref c0) h0 n0 v U'.heap L ∧ FrameEnd U o U' L ({ frames := 0, cells := 0, slots := 0, locals := 0 } : Room).cells ({ frames := 0, cells := 0, slots := 0, locals := 0 } : Room).slots) := by
  have K' := K
  obtain ⟨S0, E0, S1, E1, S2, E2, S3, E3, S4, E4, S5, E5, S6, E6, S7, E7, S8, E8, S9, E9, S10, E10, S11, E11, S12, E12, S13, E13, F0, F1, F2, F3, F4⟩ := K'
  refine MetFree.of_bodySF (plainFor_of_name own_pn0) hisR ?_
  intro p e s m args below meth c s₁ Bd hml0 hP hK
  obtain ⟨rfl, hZ, hh⟩ := hP
  have hx := Bd.exec
  have hby := Bd.bytes
  have hml : c.maxLocals = 1 := hml0
  have hown : s.vm.findClass "com/example/midpoint/midpoint/rounding/ModeIsSymmetricPinLaw" = some m.cls := findClass_of_methodNamed Bd.named
  have X0 : Stand p l e ({ frames := 0, cells := 0, slots := 0, locals := 0 } : Room) s m #[(.int (0 : Int32))] below meth c s₁ [] 0 0 := Stand.of_body Bd
  have e0 : s₁.heap = h0 := by rw [← hh, Bd.state]; rfl
  have N0 := Fr.nil n0
  have pre0 : ∀ t, Steps p.tables e below (s₁.setTop (mkF m 0 #[.val (.int (0 : Int32))] [])) t → Steps p.tables e below (s₁.setTop (entryFrame m #[(.int (0 : Int32))] 1)) t := fun t k => castTop (own_ef1 m (0 : Int32)) k
  obtain ⟨T1, X1, e1, st1⟩ := getS2 X0 hx hZ hown (host := "") (Or.inl (hw _ (List.mem_of_getElem? (i := 5) rfl))) Via.refl e0 S0 (g := (mkF m 4 #[.val (.int (0 : Int32))] [])) rfl (hb hby own_d1_4)
  obtain ⟨fs, hr, hrun, hended, hW, hsame⟩ := X1.leave (v := some (.ref c0)) (fun h => by rw [Bd.returns] at h; cases h)
  refine ⟨_, _, pre0 _ ?_, hrun, hended, _, _, rfl, ?_, ⟨_, rfl⟩, hW, hsame.mono (by decide) (by decide)⟩
  · show Steps p.tables e below (s₁.setTop (mkF m 0 #[.val (.int (0 : Int32))] [])) _
    refine XS.iloadN X0.here hx rfl (hb hby own_d1_0) rfl ?_
    show Steps p.tables e below (s₁.setTop (mkF m 1 #[.val (.int (0 : Int32))] [(.int (0 : Int32))])) _
    refine XS.ifNo X0.here hx rfl (hb hby own_d1_1) rfl ((if0 _ _).trans (teq (by decide : (0 : Int32) = (0 : Int32))).2) ?_
    show Steps p.tables e below (s₁.setTop (mkF m 4 #[.val (.int (0 : Int32))] [])) _
    refine st1 _ ?_
    show Steps p.tables e below (T1.setTop (mkF m 7 #[.val (.int (0 : Int32))] [(.ref c0)])) _
    jvm_step X1.here [X1.here.top, hx, (hb hby own_d1_7), X1.method', Bd.returns, Value.isRef, FieldType.isReference]
    first | (intro acts; rw [hr _ acts rfl rfl rfl]) | rw [hr _ _ rfl rfl rfl]
    exact Steps.refl _
  · show own_Q _ h0 n0 _ T1.heap _
    exact ⟨rfl, N0, e1⟩
theorem own_pd0 : parseMethodDescriptor "(I)Lcom/example/midpoint/midpoint/rounding/Mode;" = some ⟨[.int], some (.object "com/example/midpoint/midpoint/rounding/Mode")⟩ := by decide +kernel
theorem own_d2_0 : decode prog_19_method_7_code 0 = .ok (.aload_n 0, 1) := by decide +kernel
theorem own_d2_1 : decode prog_19_method_7_code 1 = .ok (.iconst 0, 1) := by decide +kernel
theorem own_d2_2 : decode prog_19_method_7_code 2 = .ok (.invokevirtual 64, 3) := by decide +kernel
theorem own_d3_0 : decode prog_20_method_2_code 0 = .ok (.iload_n 1, 1) := by decide +kernel
theorem own_d3_1 : decode prog_20_method_2_code 1 = .ok (.ifCond .eq 9, 3) := by decide +kernel
theorem own_d3_10 : decode prog_20_method_2_code 10 = .ok (.getstatic 13, 3) := by decide +kernel
theorem own_d3_13 : decode prog_20_method_2_code 13 = .ok (.areturn, 1) := by decide +kernel
theorem own_pn1 : plainName "com/example/midpoint/midpoint/rounding/Mode$1" = true := by first | (simp [plainName, overriddenIn]; done) | decide +kernel
theorem own_ef3 (m : MethodId) (x0 : Addr) (x1 : Int32) : entryFrame m #[(.ref x0), (.int x1)] 2 = mkF m 0 #[.val (.ref x0), .val (.int x1)] [] := by first | (simp [entryFrame, mkF, argsToLocals, Value.category]; done) | rfl
set_option maxRecDepth 65536 in
set_option maxHeartbeats 40000000 in
theorem own_r3_0 (l : Launch) (Z : State) (a0 : Array Value) (hw : ∀ d ∈ tables_1, d.before a0 Z = true) (ws : List Jvm.Cond)  (c0 c1 c2 c3 c4 c5 c6 c7 c8 c9 c10 c11 c12 c13 : Addr) (h0 : Heap) (n0 : Nat) (Z0 : n0 ≤ h0.size) (K : own_W Z h0 c0 c1 c2 c3 c4 c5 c6 c7 c8 c9 c10 c11 c12 c13)  :
    MetFree l (⟨"com/example/midpoint/midpoint/rounding/Mode$1", "onMagnitude", "(Z)Ljava/math/RoundingMode;"⟩ : MethodName) (head1 (Jvm.Cond.code (⟨"com/example/midpoint/midpoint/rounding/Mode$1", "onMagnitude", "(Z)Ljava/math/RoundingMode;"⟩ : MethodName) prog_20_method_2_code 2 (some (.object "java/math/RoundingMode")) :: ws) ({ frames := 0, cells := 0, slots := 0, locals := 0 } : Room)) (fun a U => a = #[(.ref c0), (.int (0 : Int32))] ∧ Z.Warmed39 U.vm ∧ U.heap = h0) (fun _ _ _ _ _ => True) (fun _ U o U' => ∃ v L, o = .returned v ∧ own_Q (.ref c9) h0 n0 v U'.heap L ∧ FrameEnd U o U' L ({ frames := 0, cells := 0, slots := 0, locals := 0 } : Room).cells ({ frames := 0, cells := 0, slots := 0, locals := 0 } : Room).slots) := by
  have K' := K
  obtain ⟨S0, E0, S1, E1, S2, E2, S3, E3, S4, E4, S5, E5, S6, E6, S7, E7, S8, E8, S9, E9, S10, E10, S11, E11, S12, E12, S13, E13, F0, F1, F2, F3, F4⟩ := K'
  refine MetFree.of_bodySF (plainFor_of_name own_pn1) hisR ?_
  intro p e s m args below meth c s₁ Bd hml0 hP hK
  obtain ⟨rfl, hZ, hh⟩ := hP
  have hx := Bd.exec
  have hby := Bd.bytes
  have hml : c.maxLocals = 2 := hml0
  have hown : s.vm.findClass "com/example/midpoint/midpoint/rounding/Mode$1" = some m.cls := findClass_of_methodNamed Bd.named
  have X0 : Stand p l e ({ frames := 0, cells := 0, slots := 0, locals := 0 } : Room) s m #[(.ref c0), (.int (0 : Int32))] below meth c s₁ [] 0 0 := Stand.of_body Bd
  have e0 : s₁.heap = h0 := by rw [← hh, Bd.state]; rfl
  have N0 := Fr.nil n0
  have pre0 : ∀ t, Steps p.tables e below (s₁.setTop (mkF m 0 #[.val (.ref c0), .val (.int (0 : Int32))] [])) t → Steps p.tables e below (s₁.setTop (entryFrame m #[(.ref c0), (.int (0 : Int32))] 2)) t := fun t k => castTop (own_ef3 m c0 (0 : Int32)) k
  obtain ⟨T1, X1, e1, st1⟩ := getS2 X0 hx hZ hown (host := "") (Or.inl (hw _ (List.mem_of_getElem? (i := 19) rfl))) Via.refl e0 S9 (g := (mkF m 10 #[.val (.ref c0), .val (.int (0 : Int32))] [])) rfl (hb hby own_d3_10)
  obtain ⟨fs, hr, hrun, hended, hW, hsame⟩ := X1.leave (v := some (.ref c9)) (fun h => by rw [Bd.returns] at h; cases h)
  refine ⟨_, _, pre0 _ ?_, hrun, hended, _, _, rfl, ?_, ⟨_, rfl⟩, hW, hsame.mono (by decide) (by decide)⟩
  · show Steps p.tables e below (s₁.setTop (mkF m 0 #[.val (.ref c0), .val (.int (0 : Int32))] [])) _
    refine XS.iloadN X0.here hx rfl (hb hby own_d3_0) rfl ?_
    show Steps p.tables e below (s₁.setTop (mkF m 1 #[.val (.ref c0), .val (.int (0 : Int32))] [(.int (0 : Int32))])) _
    refine XS.ifYes X0.here hx rfl (pc0 := 1) (pc' := 10) rfl (hb hby own_d3_1) rfl ((if0 _ _).trans (teq (by decide : (0 : Int32) = (0 : Int32))).1) (by decide) (by decide) ?_
    show Steps p.tables e below (s₁.setTop (mkF m 10 #[.val (.ref c0), .val (.int (0 : Int32))] [])) _
    refine st1 _ ?_
    show Steps p.tables e below (T1.setTop (mkF m 13 #[.val (.ref c0), .val (.int (0 : Int32))] [(.ref c9)])) _
    jvm_step X1.here [X1.here.top, hx, (hb hby own_d3_13), X1.method', Bd.returns, Value.isRef, FieldType.isReference]
    first | (intro acts; rw [hr _ acts rfl rfl rfl]) | rw [hr _ _ rfl rfl rfl]
    exact Steps.refl _
  · show own_Q _ h0 n0 _ T1.heap _
    exact ⟨rfl, N0, e1⟩
theorem own_pd1 : parseMethodDescriptor "(Z)Ljava/math/RoundingMode;" = some ⟨[.boolean], some (.object "java/math/RoundingMode")⟩ := by decide +kernel
theorem own_nf {s : State} {args : Array Value} {C D n d n' d' : String} (hs : (Jvm.Cond.selects D ⟨C, n, d⟩ ⟨C, n, d⟩).before args s = true) (hd : (Jvm.Cond.declares ⟨C, n, d⟩).before args s = true) : NotFace s ⟨C, n', d'⟩ := fun r0 h0 => by
  obtain ⟨r1, r, hn, -⟩ := Cond.declares_spec hd
  obtain ⟨k, hk, hi⟩ := notFace_of_selects hs r1 hn
  have e1 := findClass_of_methodNamed hn
  have e2 := findClass_of_methodNamed h0
  have e3 : r1.cls = r0.cls := Option.some.inj (e1.symm.trans e2)
  exact ⟨k, by rw [← e3]; exact hk, hi⟩
theorem own_d2_5 : decode prog_19_method_7_code 5 = .ok (.aload_n 0, 1) := by decide +kernel
theorem own_d2_6 : decode prog_19_method_7_code 6 = .ok (.iconst 1, 1) := by decide +kernel
theorem own_d2_7 : decode prog_19_method_7_code 7 = .ok (.invokevirtual 64, 3) := by decide +kernel
theorem own_d3_4 : decode prog_20_method_2_code 4 = .ok (.getstatic 7, 3) := by decide +kernel
theorem own_d3_7 : decode prog_20_method_2_code 7 = .ok (.goto 6, 3) := by decide +kernel
set_option maxRecDepth 65536 in
set_option maxHeartbeats 40000000 in
theorem own_r3_1 (l : Launch) (Z : State) (a0 : Array Value) (hw : ∀ d ∈ tables_1, d.before a0 Z = true) (ws : List Jvm.Cond)  (c0 c1 c2 c3 c4 c5 c6 c7 c8 c9 c10 c11 c12 c13 : Addr) (h0 : Heap) (n0 : Nat) (Z0 : n0 ≤ h0.size) (K : own_W Z h0 c0 c1 c2 c3 c4 c5 c6 c7 c8 c9 c10 c11 c12 c13)  :
    MetFree l (⟨"com/example/midpoint/midpoint/rounding/Mode$1", "onMagnitude", "(Z)Ljava/math/RoundingMode;"⟩ : MethodName) (head1 (Jvm.Cond.code (⟨"com/example/midpoint/midpoint/rounding/Mode$1", "onMagnitude", "(Z)Ljava/math/RoundingMode;"⟩ : MethodName) prog_20_method_2_code 2 (some (.object "java/math/RoundingMode")) :: ws) ({ frames := 0, cells := 0, slots := 0, locals := 0 } : Room)) (fun a U => a = #[(.ref c0), (.int (1 : Int32))] ∧ Z.Warmed39 U.vm ∧ U.heap = h0) (fun _ _ _ _ _ => True) (fun _ U o U' => ∃ v L, o = .returned v ∧ own_Q (.ref c10) h0 n0 v U'.heap L ∧ FrameEnd U o U' L ({ frames := 0, cells := 0, slots := 0, locals := 0 } : Room).cells ({ frames := 0, cells := 0, slots := 0, locals := 0 } : Room).slots) := by
  have K' := K
  obtain ⟨S0, E0, S1, E1, S2, E2, S3, E3, S4, E4, S5, E5, S6, E6, S7, E7, S8, E8, S9, E9, S10, E10, S11, E11, S12, E12, S13, E13, F0, F1, F2, F3, F4⟩ := K'
  refine MetFree.of_bodySF (plainFor_of_name own_pn1) hisR ?_
  intro p e s m args below meth c s₁ Bd hml0 hP hK
  obtain ⟨rfl, hZ, hh⟩ := hP
  have hx := Bd.exec
  have hby := Bd.bytes
  have hml : c.maxLocals = 2 := hml0
  have hown : s.vm.findClass "com/example/midpoint/midpoint/rounding/Mode$1" = some m.cls := findClass_of_methodNamed Bd.named
  have X0 : Stand p l e ({ frames := 0, cells := 0, slots := 0, locals := 0 } : Room) s m #[(.ref c0), (.int (1 : Int32))] below meth c s₁ [] 0 0 := Stand.of_body Bd
  have e0 : s₁.heap = h0 := by rw [← hh, Bd.state]; rfl
  have N0 := Fr.nil n0
  have pre0 : ∀ t, Steps p.tables e below (s₁.setTop (mkF m 0 #[.val (.ref c0), .val (.int (1 : Int32))] [])) t → Steps p.tables e below (s₁.setTop (entryFrame m #[(.ref c0), (.int (1 : Int32))] 2)) t := fun t k => castTop (own_ef3 m c0 (1 : Int32)) k
  obtain ⟨T1, X1, e1, st1⟩ := getS2 X0 hx hZ hown (host := "") (Or.inl (hw _ (List.mem_of_getElem? (i := 21) rfl))) Via.refl e0 S10 (g := (mkF m 4 #[.val (.ref c0), .val (.int (1 : Int32))] [])) rfl (hb hby own_d3_4)
  obtain ⟨fs, hr, hrun, hended, hW, hsame⟩ := X1.leave (v := some (.ref c10)) (fun h => by rw [Bd.returns] at h; cases h)
  refine ⟨_, _, pre0 _ ?_, hrun, hended, _, _, rfl, ?_, ⟨_, rfl⟩, hW, hsame.mono (by decide) (by decide)⟩
  · show Steps p.tables e below (s₁.setTop (mkF m 0 #[.val (.ref c0), .val (.int (1 : Int32))] [])) _
    refine XS.iloadN X0.here hx rfl (hb hby own_d3_0) rfl ?_
    show Steps p.tables e below (s₁.setTop (mkF m 1 #[.val (.ref c0), .val (.int (1 : Int32))] [(.int (1 : Int32))])) _
    refine XS.ifNo X0.here hx rfl (hb hby own_d3_1) rfl ((if0 _ _).trans (feq (by decide : ¬ ((1 : Int32) = (0 : Int32)))).1) ?_
    show Steps p.tables e below (s₁.setTop (mkF m 4 #[.val (.ref c0), .val (.int (1 : Int32))] [])) _
    refine st1 _ ?_
    show Steps p.tables e below (T1.setTop (mkF m 7 #[.val (.ref c0), .val (.int (1 : Int32))] [(.ref c10)])) _
    refine XS.goto X1.here hx rfl (pc0 := 7) (pc' := 13) rfl (hb hby own_d3_7) (by decide) (by decide) ?_
    show Steps p.tables e below (T1.setTop (mkF m 13 #[.val (.ref c0), .val (.int (1 : Int32))] [(.ref c10)])) _
    jvm_step X1.here [X1.here.top, hx, (hb hby own_d3_13), X1.method', Bd.returns, Value.isRef, FieldType.isReference]
    first | (intro acts; rw [hr _ acts rfl rfl rfl]) | rw [hr _ _ rfl rfl rfl]
    exact Steps.refl _
  · show own_Q _ h0 n0 _ T1.heap _
    exact ⟨rfl, N0, e1⟩
theorem own_d2_10 : decode prog_19_method_7_code 10 = .ok (.if_acmp .ne 7, 3) := by decide +kernel
theorem own_d2_17 : decode prog_19_method_7_code 17 = .ok (.iconst 0, 1) := by decide +kernel
theorem own_d2_18 : decode prog_19_method_7_code 18 = .ok (.ireturn, 1) := by decide +kernel
theorem own_pn2 : plainName "com/example/midpoint/midpoint/rounding/Mode" = true := by first | (simp [plainName, overriddenIn]; done) | decide +kernel
theorem own_ef2 (m : MethodId) (x0 : Addr) : entryFrame m #[(.ref x0)] 1 = mkF m 0 #[.val (.ref x0)] [] := by first | (simp [entryFrame, mkF, argsToLocals, Value.category]; done) | rfl
set_option maxRecDepth 65536 in
set_option maxHeartbeats 40000000 in
theorem own_r2_0 (l : Launch) (Z : State) (a0 : Array Value) (hw : ∀ d ∈ tables_1, d.before a0 Z = true) (ws : List Jvm.Cond)  (c0 c1 c2 c3 c4 c5 c6 c7 c8 c9 c10 c11 c12 c13 : Addr) (h0 : Heap) (n0 : Nat) (Z0 : n0 ≤ h0.size) (K : own_W Z h0 c0 c1 c2 c3 c4 c5 c6 c7 c8 c9 c10 c11 c12 c13)  :
    MetFree l (⟨"com/example/midpoint/midpoint/rounding/Mode", "isSymmetric", "()Z"⟩ : MethodName) (head1 (Jvm.Cond.code (⟨"com/example/midpoint/midpoint/rounding/Mode", "isSymmetric", "()Z"⟩ : MethodName) prog_19_method_7_code 1 (some .boolean) :: ws) ({ frames := 1, cells := 0, slots := 0, locals := 14 } : Room)) (fun a U => a = #[(.ref c0)] ∧ Z.Warmed39 U.vm ∧ U.heap = h0) (fun _ _ _ _ _ => True) (fun _ U o U' => ∃ v L, o = .returned v ∧ own_Q (.int (0 : Int32)) h0 n0 v U'.heap L ∧ FrameEnd U o U' L ({ frames := 1, cells := 0, slots := 0, locals := 14 } : Room).cells ({ frames := 1, cells := 0, slots := 0, locals := 14 } : Room).slots) := by
  have K' := K
  obtain ⟨S0, E0, S1, E1, S2, E2, S3, E3, S4, E4, S5, E5, S6, E6, S7, E7, S8, E8, S9, E9, S10, E10, S11, E11, S12, E12, S13, E13, F0, F1, F2, F3, F4⟩ := K'
  have ne_9_10 : ¬ (c9 = c10) := (Fld.ne F0 F1 (fun q => absurd (Value.int.inj q) (by decide)))
  refine MetFree.of_bodySF (plainFor_of_name own_pn2) hisR ?_
  intro p e s m args below meth c s₁ Bd hml0 hP hK
  obtain ⟨rfl, hZ, hh⟩ := hP
  have hx := Bd.exec
  have hby := Bd.bytes
  have hml : c.maxLocals = 1 := hml0
  have hown : s.vm.findClass "com/example/midpoint/midpoint/rounding/Mode" = some m.cls := findClass_of_methodNamed Bd.named
  have X0 : Stand p l e ({ frames := 1, cells := 0, slots := 0, locals := 14 } : Room) s m #[(.ref c0)] below meth c s₁ [] 0 0 := Stand.of_body Bd
  have e0 : s₁.heap = h0 := by rw [← hh, Bd.state]; rfl
  have N0 := Fr.nil n0
  have pre0 : ∀ t, Steps p.tables e below (s₁.setTop (mkF m 0 #[.val (.ref c0)] [])) t → Steps p.tables e below (s₁.setTop (entryFrame m #[(.ref c0)] 1)) t := fun t k => castTop (own_ef2 m c0) k
  obtain ⟨cq1, kq1, q1a, q1b, q1c⟩ := isOf hZ e0 E0
  obtain ⟨_, _, ⟨T1, L1, k1, n1⟩, -, X1, ⟨Lc1, hQ1, l1, y1, z1⟩, st1⟩ := X0.virtualBack hx (y := (⟨"com/example/midpoint/midpoint/rounding/Mode", "onMagnitude", "(Z)Ljava/math/RoundingMode;"⟩ : MethodName)) (z := (⟨"com/example/midpoint/midpoint/rounding/Mode$1", "onMagnitude", "(Z)Ljava/math/RoundingMode;"⟩ : MethodName)) hown (mvT hZ (hw _ (List.mem_of_getElem? (i := 13) rfl))) (mvT hZ (hw _ (List.mem_of_getElem? (i := 14) rfl))) (own_nf (args := #[]) (D := "com/example/midpoint/midpoint/rounding/Mode$1") (n := "isSymmetric") (d := "()Z") (mvT hZ (hw _ (List.mem_of_getElem? (i := 11) rfl))) (mvT hZ (hw _ (List.mem_of_getElem? (i := 9) rfl)))) (mvT hZ (hw _ (List.mem_of_getElem? (i := 15) rfl))) (mvT hZ (hw _ (List.mem_of_getElem? (i := 16) rfl))) (by decide) (backOf (W := 0) (own_r3_0 l Z a0 hw [] c0 c1 c2 c3 c4 c5 c6 c7 c8 c9 c10 c11 c12 c13 h0 n0 Z0 K) hZ (hw _ (List.mem_of_getElem? (i := 18) rfl)) (hw _ (List.mem_of_getElem? (i := 17) rfl)) (by decide) (by decide)) q1a q1c (g := (mkF m 2 #[.val (.ref c0)] [(.int (0 : Int32)), (.ref c0)])) rfl (by rw [hml]; rfl) (Steps.refl _) (argsL := [(.int (0 : Int32))]) (rest := []) (lenOf own_pd1 rfl) rfl (by show 2 * 0 + _ ≤ _; exact Nat.le_of_eq rfl) (hb hby own_d2_2) (fun _ _ => ⟨rfl, e0, (by decide : 0 + 0 ≤ _), (by decide : 0 + 0 ≤ _)⟩)
  dsimp only [Pt.U, Pt.locs, Pt.cells, Pt.slots] at X1 l1 y1 z1 st1 hQ1
  subst l1 y1 z1
  obtain ⟨rfl, N1q, e1⟩ := hQ1
  have N1 := Fr.app N0 N1q
  obtain ⟨cq2, kq2, q2a, q2b, q2c⟩ := isOf hZ e1 E0
  obtain ⟨_, _, ⟨T2, L2, k2, n2⟩, -, X2, ⟨Lc2, hQ2, l2, y2, z2⟩, st2⟩ := X1.virtualBack hx (y := (⟨"com/example/midpoint/midpoint/rounding/Mode", "onMagnitude", "(Z)Ljava/math/RoundingMode;"⟩ : MethodName)) (z := (⟨"com/example/midpoint/midpoint/rounding/Mode$1", "onMagnitude", "(Z)Ljava/math/RoundingMode;"⟩ : MethodName)) hown (mvT hZ (hw _ (List.mem_of_getElem? (i := 13) rfl))) (mvT hZ (hw _ (List.mem_of_getElem? (i := 14) rfl))) (own_nf (args := #[]) (D := "com/example/midpoint/midpoint/rounding/Mode$1") (n := "isSymmetric") (d := "()Z") (mvT hZ (hw _ (List.mem_of_getElem? (i := 11) rfl))) (mvT hZ (hw _ (List.mem_of_getElem? (i := 9) rfl)))) (mvT hZ (hw _ (List.mem_of_getElem? (i := 15) rfl))) (mvT hZ (hw _ (List.mem_of_getElem? (i := 16) rfl))) (by decide) (backOf (W := 1) (own_r3_1 l Z a0 hw [] c0 c1 c2 c3 c4 c5 c6 c7 c8 c9 c10 c11 c12 c13 h0 n0 Z0 K) hZ (hw _ (List.mem_of_getElem? (i := 18) rfl)) (hw _ (List.mem_of_getElem? (i := 17) rfl)) (by decide) (by decide)) q2a q2c (g := (mkF m 7 #[.val (.ref c0)] [(.int (1 : Int32)), (.ref c0), (.ref c9)])) rfl (by rw [hml]; rfl) (Steps.refl _) (argsL := [(.int (1 : Int32))]) (rest := [(.ref c9)]) (lenOf own_pd1 rfl) rfl (by show 2 * 0 + _ ≤ _; exact Nat.le_of_eq rfl) (hb hby own_d2_7) (fun _ _ => ⟨rfl, e1, (by decide : 0 + 0 ≤ _), (by decide : 0 + 0 ≤ _)⟩)
  dsimp only [Pt.U, Pt.locs, Pt.cells, Pt.slots] at X2 l2 y2 z2 st2 hQ2
  subst l2 y2 z2
  obtain ⟨rfl, N2q, e2⟩ := hQ2
  have N2 := Fr.app N1 N2q
  obtain ⟨fs, hr, hrun, hended, hW, hsame⟩ := X2.leave (v := some (.int (0 : Int32))) (fun h => by rw [Bd.returns] at h; cases h)
  refine ⟨_, _, pre0 _ ?_, hrun, hended, _, _, rfl, ?_, ⟨_, rfl⟩, hW, hsame.mono (by decide) (by decide)⟩
  · show Steps p.tables e below (s₁.setTop (mkF m 0 #[.val (.ref c0)] [])) _
    refine XS.aloadN X0.here hx rfl (hb hby own_d2_0) rfl rfl ?_
    show Steps p.tables e below (s₁.setTop (mkF m 1 #[.val (.ref c0)] [(.ref c0)])) _
    refine XS.iconst X0.here hx rfl (hb hby own_d2_1) ?_
    show Steps p.tables e below (s₁.setTop (mkF m 2 #[.val (.ref c0)] [(.int (0 : Int32)), (.ref c0)])) _
    refine st1.trans ?_
    show Steps p.tables e below (T1.setTop (mkF m 5 #[.val (.ref c0)] [(.ref c9)])) _
    refine XS.aloadN X1.here hx rfl (hb hby own_d2_5) rfl rfl ?_
    show Steps p.tables e below (T1.setTop (mkF m 6 #[.val (.ref c0)] [(.ref c0), (.ref c9)])) _
    refine XS.iconst X1.here hx rfl (hb hby own_d2_6) ?_
    show Steps p.tables e below (T1.setTop (mkF m 7 #[.val (.ref c0)] [(.int (1 : Int32)), (.ref c0), (.ref c9)])) _
    refine st2.trans ?_
    show Steps p.tables e below (T2.setTop (mkF m 10 #[.val (.ref c0)] [(.ref c10), (.ref c9)])) _
    refine Jvm.RoadKit.acmp (g := (mkF m 10 #[.val (.ref c0)] [(.ref c10), (.ref c9)])) X2 hx rfl rfl rfl (pc0 := 10) (pc' := 17) (same := false) rfl (hb hby own_d2_10) rfl (decide_eq_false fun q => ne_9_10 (Value.ref.inj q)) (by decide) (by decide) ?_
    show Steps p.tables e below (T2.setTop (mkF m 17 #[.val (.ref c0)] [])) _
    refine XS.iconst X2.here hx rfl (hb hby own_d2_17) ?_
    show Steps p.tables e below (T2.setTop (mkF m 18 #[.val (.ref c0)] [(.int (0 : Int32))])) _
    exact retN X2 hx (t := .boolean) Bd.returns (by simp) (hb hby own_d2_18) hr
  · show own_Q _ h0 n0 _ T2.heap _
    exact ⟨rfl, N2, e2⟩
theorem own_pd2 : parseMethodDescriptor "()Z" = some ⟨[], some .boolean⟩ := by decide +kernel
theorem own_ef0 (m : MethodId) (x0 : Int32) : entryFrame m #[(.int x0)] maxLocals = mkF m 0 #[.val (.int x0), .unset, .unset, .unset] [] := by first | (simp [entryFrame, mkF, argsToLocals, Value.category, maxLocals]; done) | rfl
set_option maxRecDepth 65536 in
set_option maxHeartbeats 40000000 in
theorem own_r0_0 (l : Launch) (Z : State) (a0 : Array Value) (hw : ∀ d ∈ tables_1, d.before a0 Z = true) (ws : List Jvm.Cond) (p0 : Int32) (c0 c1 c2 c3 c4 c5 c6 c7 c8 c9 c10 c11 c12 c13 : Addr) (h0 : Heap) (n0 : Nat) (Z0 : n0 ≤ h0.size) (K : own_W Z h0 c0 c1 c2 c3 c4 c5 c6 c7 c8 c9 c10 c11 c12 c13) (hk0 : ((p0 &&& (2147483647 : Int32)) % (9 : Int32)) = (0 : Int32)) :
    MetFree l x (head1 (Jvm.Cond.code x code maxLocals ret :: ws) room_1) (fun a U => a = #[(.int p0)] ∧ Z.Warmed39 U.vm ∧ U.heap = h0) (fun _ _ _ _ _ => True) (fun _ U o U' => ∃ v L, o = .returned v ∧ own_Q (.int (1 : Int32)) h0 n0 v U'.heap L ∧ FrameEnd U o U' L room_1.cells room_1.slots) := by
  have K' := K
  obtain ⟨S0, E0, S1, E1, S2, E2, S3, E3, S4, E4, S5, E5, S6, E6, S7, E7, S8, E8, S9, E9, S10, E10, S11, E11, S12, E12, S13, E13, F0, F1, F2, F3, F4⟩ := K'
  refine MetFree.of_bodySF (plainFor_of_name own_pn0) hisR ?_
  intro p e s m args below meth c s₁ Bd hml0 hP hK
  obtain ⟨rfl, hZ, hh⟩ := hP
  have hx := Bd.exec
  have hby := Bd.bytes
  have hml : c.maxLocals = 4 := hml0
  have hown : s.vm.findClass "com/example/midpoint/midpoint/rounding/ModeIsSymmetricPinLaw" = some m.cls := findClass_of_methodNamed Bd.named
  have X0 : Stand p l e room_1 s m #[(.int p0)] below meth c s₁ [] 0 0 := Stand.of_body Bd
  have e0 : s₁.heap = h0 := by rw [← hh, Bd.state]; rfl
  have N0 := Fr.nil n0
  have pre0 : ∀ t, Steps p.tables e below (s₁.setTop (mkF m 0 #[.val (.int p0), .unset, .unset, .unset] [])) t → Steps p.tables e below (s₁.setTop (entryFrame m #[(.int p0)] maxLocals)) t := fun t k => castTop (own_ef0 m p0) k
  obtain ⟨_, _, ⟨T1, L1, k1, n1⟩, -, X1, ⟨Lc1, hQ1, l1, y1, z1⟩, st1⟩ := Jvm.LawKit.callS X0 hx (y := (⟨"com/example/midpoint/midpoint/rounding/ModeIsSymmetricPinLaw", "modeAt", "(I)Lcom/example/midpoint/midpoint/rounding/Mode;"⟩ : MethodName)) hown (mvT hZ (hw _ (List.mem_of_getElem? (i := 1) rfl))) (mvT hZ (hw _ (List.mem_of_getElem? (i := 2) rfl))) (mvT hZ (hw _ (List.mem_of_getElem? (i := 3) rfl))) (mvT hZ (hw _ (List.mem_of_getElem? (i := 4) rfl))) (by decide) (backOf (W := 0) (own_r1_0 l Z a0 hw [] c0 c1 c2 c3 c4 c5 c6 c7 c8 c9 c10 c11 c12 c13 h0 n0 Z0 K) hZ (hw _ (List.mem_of_getElem? (i := 4) rfl)) (hw _ (List.mem_of_getElem? (i := 3) rfl)) (by decide) (by decide)) (g := (mkF m 9 #[.val (.int p0), .val (.int (0 : Int32)), .unset, .unset] [(.int (0 : Int32))])) rfl (by rw [hml]; rfl) (argsL := [(.int (0 : Int32))]) (rest := []) (lenOf own_pd0 rfl) rfl (by show 2 * 0 + _ ≤ _; exact Nat.le_of_eq rfl) (hb hby at_9) (fun _ _ => ⟨rfl, e0, (by decide : 0 + 0 ≤ _), (by decide : 0 + 0 ≤ _)⟩)
  dsimp only [Pt.U, Pt.locs, Pt.cells, Pt.slots] at X1 l1 y1 z1 st1 hQ1
  subst l1 y1 z1
  obtain ⟨rfl, N1q, e1⟩ := hQ1
  have N1 := Fr.app N0 N1q
  obtain ⟨cq2, kq2, q2a, q2b, q2c⟩ := isOf hZ e1 E0
  obtain ⟨_, _, ⟨T2, L2, k2, n2⟩, -, X2, ⟨Lc2, hQ2, l2, y2, z2⟩, st2⟩ := X1.virtualBack hx (y := (⟨"com/example/midpoint/midpoint/rounding/Mode", "isSymmetric", "()Z"⟩ : MethodName)) (z := (⟨"com/example/midpoint/midpoint/rounding/Mode", "isSymmetric", "()Z"⟩ : MethodName)) hown (mvT hZ (hw _ (List.mem_of_getElem? (i := 8) rfl))) (mvT hZ (hw _ (List.mem_of_getElem? (i := 9) rfl))) (notFace_of_selects (args := #[]) (mvT hZ (hw _ (List.mem_of_getElem? (i := 11) rfl)))) (mvT hZ (hw _ (List.mem_of_getElem? (i := 11) rfl))) (mvT hZ (hw _ (List.mem_of_getElem? (i := 10) rfl))) (by decide) (backOf (W := 0) (own_r2_0 l Z a0 hw [] c0 c1 c2 c3 c4 c5 c6 c7 c8 c9 c10 c11 c12 c13 h0 n0 Z0 K) hZ (hw _ (List.mem_of_getElem? (i := 12) rfl)) (hw _ (List.mem_of_getElem? (i := 6) rfl)) (by decide) (by decide)) q2a q2c (g := (mkF m 48 #[.val (.int p0), .val (.int (0 : Int32)), .val (.ref c0), .val (.int (0 : Int32))] [(.ref c0)])) rfl (by rw [hml]; rfl) (Steps.refl _) (argsL := []) (rest := []) (lenOf own_pd2 rfl) rfl (by show 2 * 0 + _ ≤ _; exact Nat.le_of_eq rfl) (hb hby at_48) (fun _ _ => ⟨rfl, e1, (by decide : 0 + 0 ≤ _), (by decide : 0 + 0 ≤ _)⟩)
  dsimp only [Pt.U, Pt.locs, Pt.cells, Pt.slots] at X2 l2 y2 z2 st2 hQ2
  subst l2 y2 z2
  obtain ⟨rfl, N2q, e2⟩ := hQ2
  have N2 := Fr.app N1 N2q
  obtain ⟨fs, hr, hrun, hended, hW, hsame⟩ := X2.leave (v := some (.int (1 : Int32))) (fun h => by rw [Bd.returns] at h; cases h)
  refine ⟨_, _, pre0 _ ?_, hrun, hended, _, _, rfl, ?_, ⟨_, rfl⟩, hW, hsame.mono (by decide) (by decide)⟩
  · show Steps p.tables e below (s₁.setTop (mkF m 0 #[.val (.int p0), .unset, .unset, .unset] [])) _
    refine XS.iloadN X0.here hx rfl (hb hby at_0) rfl ?_
    show Steps p.tables e below (s₁.setTop (mkF m 1 #[.val (.int p0), .unset, .unset, .unset] [(.int p0)])) _
    refine X0.ldcInt hx hown (mvT hZ (hw _ (List.mem_of_getElem? (i := 0) rfl))) (g := (mkF m 1 #[.val (.int p0), .unset, .unset, .unset] [(.int p0)])) rfl (hb hby at_1) _ ?_
    show Steps p.tables e below (s₁.setTop (mkF m 3 #[.val (.int p0), .unset, .unset, .unset] [(.int (2147483647 : Int32)), (.int p0)])) _
    refine XS.iand X0.here hx rfl (hb hby at_3) rfl ?_
    show Steps p.tables e below (s₁.setTop (mkF m 4 #[.val (.int p0), .unset, .unset, .unset] [(.int (p0 &&& (2147483647 : Int32)))])) _
    refine XS.bipush X0.here hx rfl (hb hby at_4) ?_
    show Steps p.tables e below (s₁.setTop (mkF m 6 #[.val (.int p0), .unset, .unset, .unset] [(.int (9 : Int32)), (.int (p0 &&& (2147483647 : Int32)))])) _
    refine iremM X0 hx rfl (hb hby at_6) rfl (by decide) ?_
    show Steps p.tables e below (s₁.setTop (mkF m 7 #[.val (.int p0), .unset, .unset, .unset] [(.int ((p0 &&& (2147483647 : Int32)) % (9 : Int32)))])) _
    rw [hk0]
    show Steps p.tables e below (s₁.setTop (mkF m 7 #[.val (.int p0), .unset, .unset, .unset] [(.int (0 : Int32))])) _
    refine XS.istoreN X0.here hx rfl (hb hby at_7) rfl (l' := #[.val (.int p0), .val (.int (0 : Int32)), .unset, .unset]) rfl ?_
    show Steps p.tables e below (s₁.setTop (mkF m 8 #[.val (.int p0), .val (.int (0 : Int32)), .unset, .unset] [])) _
    refine XS.iloadN X0.here hx rfl (hb hby at_8) rfl ?_
    show Steps p.tables e below (s₁.setTop (mkF m 9 #[.val (.int p0), .val (.int (0 : Int32)), .unset, .unset] [(.int (0 : Int32))])) _
    refine st1 _ ?_
    show Steps p.tables e below (T1.setTop (mkF m 12 #[.val (.int p0), .val (.int (0 : Int32)), .unset, .unset] [(.ref c0)])) _
    refine XS.astoreN X1.here hx rfl (hb hby at_12) rfl rfl (l' := #[.val (.int p0), .val (.int (0 : Int32)), .val (.ref c0), .unset]) rfl ?_
    show Steps p.tables e below (T1.setTop (mkF m 13 #[.val (.int p0), .val (.int (0 : Int32)), .val (.ref c0), .unset] [])) _
    refine XS.iloadN X1.here hx rfl (hb hby at_13) rfl ?_
    show Steps p.tables e below (T1.setTop (mkF m 14 #[.val (.int p0), .val (.int (0 : Int32)), .val (.ref c0), .unset] [(.int (0 : Int32))])) _
    refine XS.iconst X1.here hx rfl (hb hby at_14) ?_
    show Steps p.tables e below (T1.setTop (mkF m 15 #[.val (.int p0), .val (.int (0 : Int32)), .val (.ref c0), .unset] [(.int (2 : Int32)), (.int (0 : Int32))])) _
    refine XS.icmpNo X1.here hx rfl (hb hby at_15) rfl (feq (by decide : ¬ ((0 : Int32) = (2 : Int32)))).1 ?_
    show Steps p.tables e below (T1.setTop (mkF m 18 #[.val (.int p0), .val (.int (0 : Int32)), .val (.ref c0), .unset] [])) _
    refine XS.iloadN X1.here hx rfl (hb hby at_18) rfl ?_
    show Steps p.tables e below (T1.setTop (mkF m 19 #[.val (.int p0), .val (.int (0 : Int32)), .val (.ref c0), .unset] [(.int (0 : Int32))])) _
    refine XS.iconst X1.here hx rfl (hb hby at_19) ?_
    show Steps p.tables e below (T1.setTop (mkF m 20 #[.val (.int p0), .val (.int (0 : Int32)), .val (.ref c0), .unset] [(.int (3 : Int32)), (.int (0 : Int32))])) _
    refine XS.icmpNo X1.here hx rfl (hb hby at_20) rfl (feq (by decide : ¬ ((0 : Int32) = (3 : Int32)))).1 ?_
    show Steps p.tables e below (T1.setTop (mkF m 23 #[.val (.int p0), .val (.int (0 : Int32)), .val (.ref c0), .unset] [])) _
    refine XS.iloadN X1.here hx rfl (hb hby at_23) rfl ?_
    show Steps p.tables e below (T1.setTop (mkF m 24 #[.val (.int p0), .val (.int (0 : Int32)), .val (.ref c0), .unset] [(.int (0 : Int32))])) _
    refine XS.bipush X1.here hx rfl (hb hby at_24) ?_
    show Steps p.tables e below (T1.setTop (mkF m 26 #[.val (.int p0), .val (.int (0 : Int32)), .val (.ref c0), .unset] [(.int (6 : Int32)), (.int (0 : Int32))])) _
    refine XS.icmpNo X1.here hx rfl (hb hby at_26) rfl (feq (by decide : ¬ ((0 : Int32) = (6 : Int32)))).1 ?_
    show Steps p.tables e below (T1.setTop (mkF m 29 #[.val (.int p0), .val (.int (0 : Int32)), .val (.ref c0), .unset] [])) _
    refine XS.iloadN X1.here hx rfl (hb hby at_29) rfl ?_
    show Steps p.tables e below (T1.setTop (mkF m 30 #[.val (.int p0), .val (.int (0 : Int32)), .val (.ref c0), .unset] [(.int (0 : Int32))])) _
    refine XS.bipush X1.here hx rfl (hb hby at_30) ?_
    show Steps p.tables e below (T1.setTop (mkF m 32 #[.val (.int p0), .val (.int (0 : Int32)), .val (.ref c0), .unset] [(.int (7 : Int32)), (.int (0 : Int32))])) _
    refine XS.icmpNo X1.here hx rfl (hb hby at_32) rfl (feq (by decide : ¬ ((0 : Int32) = (7 : Int32)))).1 ?_
    show Steps p.tables e below (T1.setTop (mkF m 35 #[.val (.int p0), .val (.int (0 : Int32)), .val (.ref c0), .unset] [])) _
    refine XS.iloadN X1.here hx rfl (hb hby at_35) rfl ?_
    show Steps p.tables e below (T1.setTop (mkF m 36 #[.val (.int p0), .val (.int (0 : Int32)), .val (.ref c0), .unset] [(.int (0 : Int32))])) _
    refine XS.bipush X1.here hx rfl (hb hby at_36) ?_
    show Steps p.tables e below (T1.setTop (mkF m 38 #[.val (.int p0), .val (.int (0 : Int32)), .val (.ref c0), .unset] [(.int (8 : Int32)), (.int (0 : Int32))])) _
    refine XS.icmpYes X1.here hx rfl (pc0 := 38) (pc' := 45) rfl (hb hby at_38) rfl (feq (by decide : ¬ ((0 : Int32) = (8 : Int32)))).2 (by decide) (by decide) ?_
    show Steps p.tables e below (T1.setTop (mkF m 45 #[.val (.int p0), .val (.int (0 : Int32)), .val (.ref c0), .unset] [])) _
    refine XS.iconst X1.here hx rfl (hb hby at_45) ?_
    show Steps p.tables e below (T1.setTop (mkF m 46 #[.val (.int p0), .val (.int (0 : Int32)), .val (.ref c0), .unset] [(.int (0 : Int32))])) _
    refine XS.istoreN X1.here hx rfl (hb hby at_46) rfl (l' := #[.val (.int p0), .val (.int (0 : Int32)), .val (.ref c0), .val (.int (0 : Int32))]) rfl ?_
    show Steps p.tables e below (T1.setTop (mkF m 47 #[.val (.int p0), .val (.int (0 : Int32)), .val (.ref c0), .val (.int (0 : Int32))] [])) _
    refine XS.aloadN X1.here hx rfl (hb hby at_47) rfl rfl ?_
    show Steps p.tables e below (T1.setTop (mkF m 48 #[.val (.int p0), .val (.int (0 : Int32)), .val (.ref c0), .val (.int (0 : Int32))] [(.ref c0)])) _
    refine st2.trans ?_
    show Steps p.tables e below (T2.setTop (mkF m 51 #[.val (.int p0), .val (.int (0 : Int32)), .val (.ref c0), .val (.int (0 : Int32))] [(.int (0 : Int32))])) _
    refine XS.iloadN X2.here hx rfl (hb hby at_51) rfl ?_
    show Steps p.tables e below (T2.setTop (mkF m 52 #[.val (.int p0), .val (.int (0 : Int32)), .val (.ref c0), .val (.int (0 : Int32))] [(.int (0 : Int32)), (.int (0 : Int32))])) _
    refine XS.icmpNo X2.here hx rfl (hb hby at_52) rfl (teq (by decide : (0 : Int32) = (0 : Int32))).2 ?_
    show Steps p.tables e below (T2.setTop (mkF m 55 #[.val (.int p0), .val (.int (0 : Int32)), .val (.ref c0), .val (.int (0 : Int32))] [])) _
    refine XS.iconst X2.here hx rfl (hb hby at_55) ?_
    show Steps p.tables e below (T2.setTop (mkF m 56 #[.val (.int p0), .val (.int (0 : Int32)), .val (.ref c0), .val (.int (0 : Int32))] [(.int (1 : Int32))])) _
    refine XS.goto X2.here hx rfl (pc0 := 56) (pc' := 60) rfl (hb hby at_56) (by decide) (by decide) ?_
    show Steps p.tables e below (T2.setTop (mkF m 60 #[.val (.int p0), .val (.int (0 : Int32)), .val (.ref c0), .val (.int (0 : Int32))] [(.int (1 : Int32))])) _
    exact retN X2 hx (t := .boolean) Bd.returns (by simp) (hb hby at_60) hr
  · show own_Q _ h0 n0 _ T2.heap _
    exact ⟨rfl, N2, e2⟩
theorem own_d1_8 : decode method_3_code 8 = .ok (.iload_n 0, 1) := by decide +kernel
theorem own_d1_9 : decode method_3_code 9 = .ok (.iconst 1, 1) := by decide +kernel
theorem own_d1_10 : decode method_3_code 10 = .ok (.if_icmp .ne 7, 3) := by decide +kernel
theorem own_d1_13 : decode method_3_code 13 = .ok (.getstatic 24, 3) := by decide +kernel
theorem own_d1_16 : decode method_3_code 16 = .ok (.areturn, 1) := by decide +kernel
set_option maxRecDepth 65536 in
set_option maxHeartbeats 40000000 in
theorem own_r1_1 (l : Launch) (Z : State) (a0 : Array Value) (hw : ∀ d ∈ tables_1, d.before a0 Z = true) (ws : List Jvm.Cond)  (c0 c1 c2 c3 c4 c5 c6 c7 c8 c9 c10 c11 c12 c13 : Addr) (h0 : Heap) (n0 : Nat) (Z0 : n0 ≤ h0.size) (K : own_W Z h0 c0 c1 c2 c3 c4 c5 c6 c7 c8 c9 c10 c11 c12 c13)  :
    MetFree l (⟨"com/example/midpoint/midpoint/rounding/ModeIsSymmetricPinLaw", "modeAt", "(I)Lcom/example/midpoint/midpoint/rounding/Mode;"⟩ : MethodName) (head1 (Jvm.Cond.code (⟨"com/example/midpoint/midpoint/rounding/ModeIsSymmetricPinLaw", "modeAt", "(I)Lcom/example/midpoint/midpoint/rounding/Mode;"⟩ : MethodName) method_3_code 1 (some (.object "com/example/midpoint/midpoint/rounding/Mode")) :: ws) ({ frames := 0, cells := 0, slots := 0, locals := 0 } : Room)) (fun a U => a = #[(.int (1 : Int32))] ∧ Z.Warmed39 U.vm ∧ U.heap = h0) (fun _ _ _ _ _ => True) (fun _ U o U' => ∃ v L, o = .returned v ∧ own_Q (.ref c3) h0 n0 v U'.heap L ∧ FrameEnd U o U' L ({ frames := 0, cells := 0, slots := 0, locals := 0 } : Room).cells ({ frames := 0, cells := 0, slots := 0, locals := 0 } : Room).slots) := by
  have K' := K
  obtain ⟨S0, E0, S1, E1, S2, E2, S3, E3, S4, E4, S5, E5, S6, E6, S7, E7, S8, E8, S9, E9, S10, E10, S11, E11, S12, E12, S13, E13, F0, F1, F2, F3, F4⟩ := K'
  refine MetFree.of_bodySF (plainFor_of_name own_pn0) hisR ?_
  intro p e s m args below meth c s₁ Bd hml0 hP hK
  obtain ⟨rfl, hZ, hh⟩ := hP
  have hx := Bd.exec
  have hby := Bd.bytes
  have hml : c.maxLocals = 1 := hml0
  have hown : s.vm.findClass "com/example/midpoint/midpoint/rounding/ModeIsSymmetricPinLaw" = some m.cls := findClass_of_methodNamed Bd.named
  have X0 : Stand p l e ({ frames := 0, cells := 0, slots := 0, locals := 0 } : Room) s m #[(.int (1 : Int32))] below meth c s₁ [] 0 0 := Stand.of_body Bd
  have e0 : s₁.heap = h0 := by rw [← hh, Bd.state]; rfl
  have N0 := Fr.nil n0
  have pre0 : ∀ t, Steps p.tables e below (s₁.setTop (mkF m 0 #[.val (.int (1 : Int32))] [])) t → Steps p.tables e below (s₁.setTop (entryFrame m #[(.int (1 : Int32))] 1)) t := fun t k => castTop (own_ef1 m (1 : Int32)) k
  obtain ⟨T1, X1, e1, st1⟩ := getS2 X0 hx hZ hown (host := "") (Or.inl (hw _ (List.mem_of_getElem? (i := 38) rfl))) Via.refl e0 S3 (g := (mkF m 13 #[.val (.int (1 : Int32))] [])) rfl (hb hby own_d1_13)
  obtain ⟨fs, hr, hrun, hended, hW, hsame⟩ := X1.leave (v := some (.ref c3)) (fun h => by rw [Bd.returns] at h; cases h)
  refine ⟨_, _, pre0 _ ?_, hrun, hended, _, _, rfl, ?_, ⟨_, rfl⟩, hW, hsame.mono (by decide) (by decide)⟩
  · show Steps p.tables e below (s₁.setTop (mkF m 0 #[.val (.int (1 : Int32))] [])) _
    refine XS.iloadN X0.here hx rfl (hb hby own_d1_0) rfl ?_
    show Steps p.tables e below (s₁.setTop (mkF m 1 #[.val (.int (1 : Int32))] [(.int (1 : Int32))])) _
    refine XS.ifYes X0.here hx rfl (pc0 := 1) (pc' := 8) rfl (hb hby own_d1_1) rfl ((if0 _ _).trans (feq (by decide : ¬ ((1 : Int32) = (0 : Int32)))).2) (by decide) (by decide) ?_
    show Steps p.tables e below (s₁.setTop (mkF m 8 #[.val (.int (1 : Int32))] [])) _
    refine XS.iloadN X0.here hx rfl (hb hby own_d1_8) rfl ?_
    show Steps p.tables e below (s₁.setTop (mkF m 9 #[.val (.int (1 : Int32))] [(.int (1 : Int32))])) _
    refine XS.iconst X0.here hx rfl (hb hby own_d1_9) ?_
    show Steps p.tables e below (s₁.setTop (mkF m 10 #[.val (.int (1 : Int32))] [(.int (1 : Int32)), (.int (1 : Int32))])) _
    refine XS.icmpNo X0.here hx rfl (hb hby own_d1_10) rfl (teq (by decide : (1 : Int32) = (1 : Int32))).2 ?_
    show Steps p.tables e below (s₁.setTop (mkF m 13 #[.val (.int (1 : Int32))] [])) _
    refine st1 _ ?_
    show Steps p.tables e below (T1.setTop (mkF m 16 #[.val (.int (1 : Int32))] [(.ref c3)])) _
    jvm_step X1.here [X1.here.top, hx, (hb hby own_d1_16), X1.method', Bd.returns, Value.isRef, FieldType.isReference]
    first | (intro acts; rw [hr _ acts rfl rfl rfl]) | rw [hr _ _ rfl rfl rfl]
    exact Steps.refl _
  · show own_Q _ h0 n0 _ T1.heap _
    exact ⟨rfl, N0, e1⟩
theorem own_d6_0 : decode prog_21_method_2_code 0 = .ok (.iload_n 1, 1) := by decide +kernel
theorem own_d6_1 : decode prog_21_method_2_code 1 = .ok (.ifCond .eq 9, 3) := by decide +kernel
theorem own_d6_10 : decode prog_21_method_2_code 10 = .ok (.getstatic 13, 3) := by decide +kernel
theorem own_d6_13 : decode prog_21_method_2_code 13 = .ok (.areturn, 1) := by decide +kernel
theorem own_pn3 : plainName "com/example/midpoint/midpoint/rounding/Mode$2" = true := by first | (simp [plainName, overriddenIn]; done) | decide +kernel
theorem own_ef6 (m : MethodId) (x0 : Addr) (x1 : Int32) : entryFrame m #[(.ref x0), (.int x1)] 2 = mkF m 0 #[.val (.ref x0), .val (.int x1)] [] := by first | (simp [entryFrame, mkF, argsToLocals, Value.category]; done) | rfl
set_option maxRecDepth 65536 in
set_option maxHeartbeats 40000000 in
theorem own_r6_0 (l : Launch) (Z : State) (a0 : Array Value) (hw : ∀ d ∈ tables_1, d.before a0 Z = true) (ws : List Jvm.Cond)  (c0 c1 c2 c3 c4 c5 c6 c7 c8 c9 c10 c11 c12 c13 : Addr) (h0 : Heap) (n0 : Nat) (Z0 : n0 ≤ h0.size) (K : own_W Z h0 c0 c1 c2 c3 c4 c5 c6 c7 c8 c9 c10 c11 c12 c13)  :
    MetFree l (⟨"com/example/midpoint/midpoint/rounding/Mode$2", "onMagnitude", "(Z)Ljava/math/RoundingMode;"⟩ : MethodName) (head1 (Jvm.Cond.code (⟨"com/example/midpoint/midpoint/rounding/Mode$2", "onMagnitude", "(Z)Ljava/math/RoundingMode;"⟩ : MethodName) prog_21_method_2_code 2 (some (.object "java/math/RoundingMode")) :: ws) ({ frames := 0, cells := 0, slots := 0, locals := 0 } : Room)) (fun a U => a = #[(.ref c3), (.int (0 : Int32))] ∧ Z.Warmed39 U.vm ∧ U.heap = h0) (fun _ _ _ _ _ => True) (fun _ U o U' => ∃ v L, o = .returned v ∧ own_Q (.ref c10) h0 n0 v U'.heap L ∧ FrameEnd U o U' L ({ frames := 0, cells := 0, slots := 0, locals := 0 } : Room).cells ({ frames := 0, cells := 0, slots := 0, locals := 0 } : Room).slots) := by
  have K' := K
  obtain ⟨S0, E0, S1, E1, S2, E2, S3, E3, S4, E4, S5, E5, S6, E6, S7, E7, S8, E8, S9, E9, S10, E10, S11, E11, S12, E12, S13, E13, F0, F1, F2, F3, F4⟩ := K'
  refine MetFree.of_bodySF (plainFor_of_name own_pn3) hisR ?_
  intro p e s m args below meth c s₁ Bd hml0 hP hK
  obtain ⟨rfl, hZ, hh⟩ := hP
  have hx := Bd.exec
  have hby := Bd.bytes
  have hml : c.maxLocals = 2 := hml0
  have hown : s.vm.findClass "com/example/midpoint/midpoint/rounding/Mode$2" = some m.cls := findClass_of_methodNamed Bd.named
  have X0 : Stand p l e ({ frames := 0, cells := 0, slots := 0, locals := 0 } : Room) s m #[(.ref c3), (.int (0 : Int32))] below meth c s₁ [] 0 0 := Stand.of_body Bd
  have e0 : s₁.heap = h0 := by rw [← hh, Bd.state]; rfl
  have N0 := Fr.nil n0
  have pre0 : ∀ t, Steps p.tables e below (s₁.setTop (mkF m 0 #[.val (.ref c3), .val (.int (0 : Int32))] [])) t → Steps p.tables e below (s₁.setTop (entryFrame m #[(.ref c3), (.int (0 : Int32))] 2)) t := fun t k => castTop (own_ef6 m c3 (0 : Int32)) k
  obtain ⟨T1, X1, e1, st1⟩ := getS2 X0 hx hZ hown (host := "") (Or.inl (hw _ (List.mem_of_getElem? (i := 45) rfl))) Via.refl e0 S10 (g := (mkF m 10 #[.val (.ref c3), .val (.int (0 : Int32))] [])) rfl (hb hby own_d6_10)
  obtain ⟨fs, hr, hrun, hended, hW, hsame⟩ := X1.leave (v := some (.ref c10)) (fun h => by rw [Bd.returns] at h; cases h)
  refine ⟨_, _, pre0 _ ?_, hrun, hended, _, _, rfl, ?_, ⟨_, rfl⟩, hW, hsame.mono (by decide) (by decide)⟩
  · show Steps p.tables e below (s₁.setTop (mkF m 0 #[.val (.ref c3), .val (.int (0 : Int32))] [])) _
    refine XS.iloadN X0.here hx rfl (hb hby own_d6_0) rfl ?_
    show Steps p.tables e below (s₁.setTop (mkF m 1 #[.val (.ref c3), .val (.int (0 : Int32))] [(.int (0 : Int32))])) _
    refine XS.ifYes X0.here hx rfl (pc0 := 1) (pc' := 10) rfl (hb hby own_d6_1) rfl ((if0 _ _).trans (teq (by decide : (0 : Int32) = (0 : Int32))).1) (by decide) (by decide) ?_
    show Steps p.tables e below (s₁.setTop (mkF m 10 #[.val (.ref c3), .val (.int (0 : Int32))] [])) _
    refine st1 _ ?_
    show Steps p.tables e below (T1.setTop (mkF m 13 #[.val (.ref c3), .val (.int (0 : Int32))] [(.ref c10)])) _
    jvm_step X1.here [X1.here.top, hx, (hb hby own_d6_13), X1.method', Bd.returns, Value.isRef, FieldType.isReference]
    first | (intro acts; rw [hr _ acts rfl rfl rfl]) | rw [hr _ _ rfl rfl rfl]
    exact Steps.refl _
  · show own_Q _ h0 n0 _ T1.heap _
    exact ⟨rfl, N0, e1⟩
theorem own_d6_4 : decode prog_21_method_2_code 4 = .ok (.getstatic 7, 3) := by decide +kernel
theorem own_d6_7 : decode prog_21_method_2_code 7 = .ok (.goto 6, 3) := by decide +kernel
set_option maxRecDepth 65536 in
set_option maxHeartbeats 40000000 in
theorem own_r6_1 (l : Launch) (Z : State) (a0 : Array Value) (hw : ∀ d ∈ tables_1, d.before a0 Z = true) (ws : List Jvm.Cond)  (c0 c1 c2 c3 c4 c5 c6 c7 c8 c9 c10 c11 c12 c13 : Addr) (h0 : Heap) (n0 : Nat) (Z0 : n0 ≤ h0.size) (K : own_W Z h0 c0 c1 c2 c3 c4 c5 c6 c7 c8 c9 c10 c11 c12 c13)  :
    MetFree l (⟨"com/example/midpoint/midpoint/rounding/Mode$2", "onMagnitude", "(Z)Ljava/math/RoundingMode;"⟩ : MethodName) (head1 (Jvm.Cond.code (⟨"com/example/midpoint/midpoint/rounding/Mode$2", "onMagnitude", "(Z)Ljava/math/RoundingMode;"⟩ : MethodName) prog_21_method_2_code 2 (some (.object "java/math/RoundingMode")) :: ws) ({ frames := 0, cells := 0, slots := 0, locals := 0 } : Room)) (fun a U => a = #[(.ref c3), (.int (1 : Int32))] ∧ Z.Warmed39 U.vm ∧ U.heap = h0) (fun _ _ _ _ _ => True) (fun _ U o U' => ∃ v L, o = .returned v ∧ own_Q (.ref c9) h0 n0 v U'.heap L ∧ FrameEnd U o U' L ({ frames := 0, cells := 0, slots := 0, locals := 0 } : Room).cells ({ frames := 0, cells := 0, slots := 0, locals := 0 } : Room).slots) := by
  have K' := K
  obtain ⟨S0, E0, S1, E1, S2, E2, S3, E3, S4, E4, S5, E5, S6, E6, S7, E7, S8, E8, S9, E9, S10, E10, S11, E11, S12, E12, S13, E13, F0, F1, F2, F3, F4⟩ := K'
  refine MetFree.of_bodySF (plainFor_of_name own_pn3) hisR ?_
  intro p e s m args below meth c s₁ Bd hml0 hP hK
  obtain ⟨rfl, hZ, hh⟩ := hP
  have hx := Bd.exec
  have hby := Bd.bytes
  have hml : c.maxLocals = 2 := hml0
  have hown : s.vm.findClass "com/example/midpoint/midpoint/rounding/Mode$2" = some m.cls := findClass_of_methodNamed Bd.named
  have X0 : Stand p l e ({ frames := 0, cells := 0, slots := 0, locals := 0 } : Room) s m #[(.ref c3), (.int (1 : Int32))] below meth c s₁ [] 0 0 := Stand.of_body Bd
  have e0 : s₁.heap = h0 := by rw [← hh, Bd.state]; rfl
  have N0 := Fr.nil n0
  have pre0 : ∀ t, Steps p.tables e below (s₁.setTop (mkF m 0 #[.val (.ref c3), .val (.int (1 : Int32))] [])) t → Steps p.tables e below (s₁.setTop (entryFrame m #[(.ref c3), (.int (1 : Int32))] 2)) t := fun t k => castTop (own_ef6 m c3 (1 : Int32)) k
  obtain ⟨T1, X1, e1, st1⟩ := getS2 X0 hx hZ hown (host := "") (Or.inl (hw _ (List.mem_of_getElem? (i := 46) rfl))) Via.refl e0 S9 (g := (mkF m 4 #[.val (.ref c3), .val (.int (1 : Int32))] [])) rfl (hb hby own_d6_4)
  obtain ⟨fs, hr, hrun, hended, hW, hsame⟩ := X1.leave (v := some (.ref c9)) (fun h => by rw [Bd.returns] at h; cases h)
  refine ⟨_, _, pre0 _ ?_, hrun, hended, _, _, rfl, ?_, ⟨_, rfl⟩, hW, hsame.mono (by decide) (by decide)⟩
  · show Steps p.tables e below (s₁.setTop (mkF m 0 #[.val (.ref c3), .val (.int (1 : Int32))] [])) _
    refine XS.iloadN X0.here hx rfl (hb hby own_d6_0) rfl ?_
    show Steps p.tables e below (s₁.setTop (mkF m 1 #[.val (.ref c3), .val (.int (1 : Int32))] [(.int (1 : Int32))])) _
    refine XS.ifNo X0.here hx rfl (hb hby own_d6_1) rfl ((if0 _ _).trans (feq (by decide : ¬ ((1 : Int32) = (0 : Int32)))).1) ?_
    show Steps p.tables e below (s₁.setTop (mkF m 4 #[.val (.ref c3), .val (.int (1 : Int32))] [])) _
    refine st1 _ ?_
    show Steps p.tables e below (T1.setTop (mkF m 7 #[.val (.ref c3), .val (.int (1 : Int32))] [(.ref c9)])) _
    refine XS.goto X1.here hx rfl (pc0 := 7) (pc' := 13) rfl (hb hby own_d6_7) (by decide) (by decide) ?_
    show Steps p.tables e below (T1.setTop (mkF m 13 #[.val (.ref c3), .val (.int (1 : Int32))] [(.ref c9)])) _
    jvm_step X1.here [X1.here.top, hx, (hb hby own_d6_13), X1.method', Bd.returns, Value.isRef, FieldType.isReference]
    first | (intro acts; rw [hr _ acts rfl rfl rfl]) | rw [hr _ _ rfl rfl rfl]
    exact Steps.refl _
  · show own_Q _ h0 n0 _ T1.heap _
    exact ⟨rfl, N0, e1⟩
set_option maxRecDepth 65536 in
set_option maxHeartbeats 40000000 in
theorem own_r2_1 (l : Launch) (Z : State) (a0 : Array Value) (hw : ∀ d ∈ tables_1, d.before a0 Z = true) (ws : List Jvm.Cond)  (c0 c1 c2 c3 c4 c5 c6 c7 c8 c9 c10 c11 c12 c13 : Addr) (h0 : Heap) (n0 : Nat) (Z0 : n0 ≤ h0.size) (K : own_W Z h0 c0 c1 c2 c3 c4 c5 c6 c7 c8 c9 c10 c11 c12 c13)  :
    MetFree l (⟨"com/example/midpoint/midpoint/rounding/Mode", "isSymmetric", "()Z"⟩ : MethodName) (head1 (Jvm.Cond.code (⟨"com/example/midpoint/midpoint/rounding/Mode", "isSymmetric", "()Z"⟩ : MethodName) prog_19_method_7_code 1 (some .boolean) :: ws) ({ frames := 1, cells := 0, slots := 0, locals := 14 } : Room)) (fun a U => a = #[(.ref c3)] ∧ Z.Warmed39 U.vm ∧ U.heap = h0) (fun _ _ _ _ _ => True) (fun _ U o U' => ∃ v L, o = .returned v ∧ own_Q (.int (0 : Int32)) h0 n0 v U'.heap L ∧ FrameEnd U o U' L ({ frames := 1, cells := 0, slots := 0, locals := 14 } : Room).cells ({ frames := 1, cells := 0, slots := 0, locals := 14 } : Room).slots) := by
  have K' := K
  obtain ⟨S0, E0, S1, E1, S2, E2, S3, E3, S4, E4, S5, E5, S6, E6, S7, E7, S8, E8, S9, E9, S10, E10, S11, E11, S12, E12, S13, E13, F0, F1, F2, F3, F4⟩ := K'
  have ne_10_9 : ¬ (c10 = c9) := (Fld.ne F1 F0 (fun q => absurd (Value.int.inj q) (by decide)))
  refine MetFree.of_bodySF (plainFor_of_name own_pn2) hisR ?_
  intro p e s m args below meth c s₁ Bd hml0 hP hK
  obtain ⟨rfl, hZ, hh⟩ := hP
  have hx := Bd.exec
  have hby := Bd.bytes
  have hml : c.maxLocals = 1 := hml0
  have hown : s.vm.findClass "com/example/midpoint/midpoint/rounding/Mode" = some m.cls := findClass_of_methodNamed Bd.named
  have X0 : Stand p l e ({ frames := 1, cells := 0, slots := 0, locals := 14 } : Room) s m #[(.ref c3)] below meth c s₁ [] 0 0 := Stand.of_body Bd
  have e0 : s₁.heap = h0 := by rw [← hh, Bd.state]; rfl
  have N0 := Fr.nil n0
  have pre0 : ∀ t, Steps p.tables e below (s₁.setTop (mkF m 0 #[.val (.ref c3)] [])) t → Steps p.tables e below (s₁.setTop (entryFrame m #[(.ref c3)] 1)) t := fun t k => castTop (own_ef2 m c3) k
  obtain ⟨cq1, kq1, q1a, q1b, q1c⟩ := isOf hZ e0 E3
  obtain ⟨_, _, ⟨T1, L1, k1, n1⟩, -, X1, ⟨Lc1, hQ1, l1, y1, z1⟩, st1⟩ := X0.virtualBack hx (y := (⟨"com/example/midpoint/midpoint/rounding/Mode", "onMagnitude", "(Z)Ljava/math/RoundingMode;"⟩ : MethodName)) (z := (⟨"com/example/midpoint/midpoint/rounding/Mode$2", "onMagnitude", "(Z)Ljava/math/RoundingMode;"⟩ : MethodName)) hown (mvT hZ (hw _ (List.mem_of_getElem? (i := 13) rfl))) (mvT hZ (hw _ (List.mem_of_getElem? (i := 14) rfl))) (own_nf (args := #[]) (D := "com/example/midpoint/midpoint/rounding/Mode$1") (n := "isSymmetric") (d := "()Z") (mvT hZ (hw _ (List.mem_of_getElem? (i := 11) rfl))) (mvT hZ (hw _ (List.mem_of_getElem? (i := 9) rfl)))) (mvT hZ (hw _ (List.mem_of_getElem? (i := 41) rfl))) (mvT hZ (hw _ (List.mem_of_getElem? (i := 42) rfl))) (by decide) (backOf (W := 0) (own_r6_0 l Z a0 hw [] c0 c1 c2 c3 c4 c5 c6 c7 c8 c9 c10 c11 c12 c13 h0 n0 Z0 K) hZ (hw _ (List.mem_of_getElem? (i := 44) rfl)) (hw _ (List.mem_of_getElem? (i := 43) rfl)) (by decide) (by decide)) q1a q1c (g := (mkF m 2 #[.val (.ref c3)] [(.int (0 : Int32)), (.ref c3)])) rfl (by rw [hml]; rfl) (Steps.refl _) (argsL := [(.int (0 : Int32))]) (rest := []) (lenOf own_pd1 rfl) rfl (by show 2 * 0 + _ ≤ _; exact Nat.le_of_eq rfl) (hb hby own_d2_2) (fun _ _ => ⟨rfl, e0, (by decide : 0 + 0 ≤ _), (by decide : 0 + 0 ≤ _)⟩)
  dsimp only [Pt.U, Pt.locs, Pt.cells, Pt.slots] at X1 l1 y1 z1 st1 hQ1
  subst l1 y1 z1
  obtain ⟨rfl, N1q, e1⟩ := hQ1
  have N1 := Fr.app N0 N1q
  obtain ⟨cq2, kq2, q2a, q2b, q2c⟩ := isOf hZ e1 E3
  obtain ⟨_, _, ⟨T2, L2, k2, n2⟩, -, X2, ⟨Lc2, hQ2, l2, y2, z2⟩, st2⟩ := X1.virtualBack hx (y := (⟨"com/example/midpoint/midpoint/rounding/Mode", "onMagnitude", "(Z)Ljava/math/RoundingMode;"⟩ : MethodName)) (z := (⟨"com/example/midpoint/midpoint/rounding/Mode$2", "onMagnitude", "(Z)Ljava/math/RoundingMode;"⟩ : MethodName)) hown (mvT hZ (hw _ (List.mem_of_getElem? (i := 13) rfl))) (mvT hZ (hw _ (List.mem_of_getElem? (i := 14) rfl))) (own_nf (args := #[]) (D := "com/example/midpoint/midpoint/rounding/Mode$1") (n := "isSymmetric") (d := "()Z") (mvT hZ (hw _ (List.mem_of_getElem? (i := 11) rfl))) (mvT hZ (hw _ (List.mem_of_getElem? (i := 9) rfl)))) (mvT hZ (hw _ (List.mem_of_getElem? (i := 41) rfl))) (mvT hZ (hw _ (List.mem_of_getElem? (i := 42) rfl))) (by decide) (backOf (W := 1) (own_r6_1 l Z a0 hw [] c0 c1 c2 c3 c4 c5 c6 c7 c8 c9 c10 c11 c12 c13 h0 n0 Z0 K) hZ (hw _ (List.mem_of_getElem? (i := 44) rfl)) (hw _ (List.mem_of_getElem? (i := 43) rfl)) (by decide) (by decide)) q2a q2c (g := (mkF m 7 #[.val (.ref c3)] [(.int (1 : Int32)), (.ref c3), (.ref c10)])) rfl (by rw [hml]; rfl) (Steps.refl _) (argsL := [(.int (1 : Int32))]) (rest := [(.ref c10)]) (lenOf own_pd1 rfl) rfl (by show 2 * 0 + _ ≤ _; exact Nat.le_of_eq rfl) (hb hby own_d2_7) (fun _ _ => ⟨rfl, e1, (by decide : 0 + 0 ≤ _), (by decide : 0 + 0 ≤ _)⟩)
  dsimp only [Pt.U, Pt.locs, Pt.cells, Pt.slots] at X2 l2 y2 z2 st2 hQ2
  subst l2 y2 z2
  obtain ⟨rfl, N2q, e2⟩ := hQ2
  have N2 := Fr.app N1 N2q
  obtain ⟨fs, hr, hrun, hended, hW, hsame⟩ := X2.leave (v := some (.int (0 : Int32))) (fun h => by rw [Bd.returns] at h; cases h)
  refine ⟨_, _, pre0 _ ?_, hrun, hended, _, _, rfl, ?_, ⟨_, rfl⟩, hW, hsame.mono (by decide) (by decide)⟩
  · show Steps p.tables e below (s₁.setTop (mkF m 0 #[.val (.ref c3)] [])) _
    refine XS.aloadN X0.here hx rfl (hb hby own_d2_0) rfl rfl ?_
    show Steps p.tables e below (s₁.setTop (mkF m 1 #[.val (.ref c3)] [(.ref c3)])) _
    refine XS.iconst X0.here hx rfl (hb hby own_d2_1) ?_
    show Steps p.tables e below (s₁.setTop (mkF m 2 #[.val (.ref c3)] [(.int (0 : Int32)), (.ref c3)])) _
    refine st1.trans ?_
    show Steps p.tables e below (T1.setTop (mkF m 5 #[.val (.ref c3)] [(.ref c10)])) _
    refine XS.aloadN X1.here hx rfl (hb hby own_d2_5) rfl rfl ?_
    show Steps p.tables e below (T1.setTop (mkF m 6 #[.val (.ref c3)] [(.ref c3), (.ref c10)])) _
    refine XS.iconst X1.here hx rfl (hb hby own_d2_6) ?_
    show Steps p.tables e below (T1.setTop (mkF m 7 #[.val (.ref c3)] [(.int (1 : Int32)), (.ref c3), (.ref c10)])) _
    refine st2.trans ?_
    show Steps p.tables e below (T2.setTop (mkF m 10 #[.val (.ref c3)] [(.ref c9), (.ref c10)])) _
    refine Jvm.RoadKit.acmp (g := (mkF m 10 #[.val (.ref c3)] [(.ref c9), (.ref c10)])) X2 hx rfl rfl rfl (pc0 := 10) (pc' := 17) (same := false) rfl (hb hby own_d2_10) rfl (decide_eq_false fun q => ne_10_9 (Value.ref.inj q)) (by decide) (by decide) ?_
    show Steps p.tables e below (T2.setTop (mkF m 17 #[.val (.ref c3)] [])) _
    refine XS.iconst X2.here hx rfl (hb hby own_d2_17) ?_
    show Steps p.tables e below (T2.setTop (mkF m 18 #[.val (.ref c3)] [(.int (0 : Int32))])) _
    exact retN X2 hx (t := .boolean) Bd.returns (by simp) (hb hby own_d2_18) hr
  · show own_Q _ h0 n0 _ T2.heap _
    exact ⟨rfl, N2, e2⟩
set_option maxRecDepth 65536 in
set_option maxHeartbeats 40000000 in
theorem own_r0_1 (l : Launch) (Z : State) (a0 : Array Value) (hw : ∀ d ∈ tables_1, d.before a0 Z = true) (ws : List Jvm.Cond) (p0 : Int32) (c0 c1 c2 c3 c4 c5 c6 c7 c8 c9 c10 c11 c12 c13 : Addr) (h0 : Heap) (n0 : Nat) (Z0 : n0 ≤ h0.size) (K : own_W Z h0 c0 c1 c2 c3 c4 c5 c6 c7 c8 c9 c10 c11 c12 c13) (hk0 : ((p0 &&& (2147483647 : Int32)) % (9 : Int32)) = (1 : Int32)) :
    MetFree l x (head1 (Jvm.Cond.code x code maxLocals ret :: ws) room_1) (fun a U => a = #[(.int p0)] ∧ Z.Warmed39 U.vm ∧ U.heap = h0) (fun _ _ _ _ _ => True) (fun _ U o U' => ∃ v L, o = .returned v ∧ own_Q (.int (1 : Int32)) h0 n0 v U'.heap L ∧ FrameEnd U o U' L room_1.cells room_1.slots) := by
  have K' := K
  obtain ⟨S0, E0, S1, E1, S2, E2, S3, E3, S4, E4, S5, E5, S6, E6, S7, E7, S8, E8, S9, E9, S10, E10, S11, E11, S12, E12, S13, E13, F0, F1, F2, F3, F4⟩ := K'
  refine MetFree.of_bodySF (plainFor_of_name own_pn0) hisR ?_
  intro p e s m args below meth c s₁ Bd hml0 hP hK
  obtain ⟨rfl, hZ, hh⟩ := hP
  have hx := Bd.exec
  have hby := Bd.bytes
  have hml : c.maxLocals = 4 := hml0
  have hown : s.vm.findClass "com/example/midpoint/midpoint/rounding/ModeIsSymmetricPinLaw" = some m.cls := findClass_of_methodNamed Bd.named
  have X0 : Stand p l e room_1 s m #[(.int p0)] below meth c s₁ [] 0 0 := Stand.of_body Bd
  have e0 : s₁.heap = h0 := by rw [← hh, Bd.state]; rfl
  have N0 := Fr.nil n0
  have pre0 : ∀ t, Steps p.tables e below (s₁.setTop (mkF m 0 #[.val (.int p0), .unset, .unset, .unset] [])) t → Steps p.tables e below (s₁.setTop (entryFrame m #[(.int p0)] maxLocals)) t := fun t k => castTop (own_ef0 m p0) k
  obtain ⟨_, _, ⟨T1, L1, k1, n1⟩, -, X1, ⟨Lc1, hQ1, l1, y1, z1⟩, st1⟩ := Jvm.LawKit.callS X0 hx (y := (⟨"com/example/midpoint/midpoint/rounding/ModeIsSymmetricPinLaw", "modeAt", "(I)Lcom/example/midpoint/midpoint/rounding/Mode;"⟩ : MethodName)) hown (mvT hZ (hw _ (List.mem_of_getElem? (i := 1) rfl))) (mvT hZ (hw _ (List.mem_of_getElem? (i := 2) rfl))) (mvT hZ (hw _ (List.mem_of_getElem? (i := 3) rfl))) (mvT hZ (hw _ (List.mem_of_getElem? (i := 4) rfl))) (by decide) (backOf (W := 0) (own_r1_1 l Z a0 hw [] c0 c1 c2 c3 c4 c5 c6 c7 c8 c9 c10 c11 c12 c13 h0 n0 Z0 K) hZ (hw _ (List.mem_of_getElem? (i := 4) rfl)) (hw _ (List.mem_of_getElem? (i := 3) rfl)) (by decide) (by decide)) (g := (mkF m 9 #[.val (.int p0), .val (.int (1 : Int32)), .unset, .unset] [(.int (1 : Int32))])) rfl (by rw [hml]; rfl) (argsL := [(.int (1 : Int32))]) (rest := []) (lenOf own_pd0 rfl) rfl (by show 2 * 0 + _ ≤ _; exact Nat.le_of_eq rfl) (hb hby at_9) (fun _ _ => ⟨rfl, e0, (by decide : 0 + 0 ≤ _), (by decide : 0 + 0 ≤ _)⟩)
  dsimp only [Pt.U, Pt.locs, Pt.cells, Pt.slots] at X1 l1 y1 z1 st1 hQ1
  subst l1 y1 z1
  obtain ⟨rfl, N1q, e1⟩ := hQ1
  have N1 := Fr.app N0 N1q
  obtain ⟨cq2, kq2, q2a, q2b, q2c⟩ := isOf hZ e1 E3
  obtain ⟨_, _, ⟨T2, L2, k2, n2⟩, -, X2, ⟨Lc2, hQ2, l2, y2, z2⟩, st2⟩ := X1.virtualBack hx (y := (⟨"com/example/midpoint/midpoint/rounding/Mode", "isSymmetric", "()Z"⟩ : MethodName)) (z := (⟨"com/example/midpoint/midpoint/rounding/Mode", "isSymmetric", "()Z"⟩ : MethodName)) hown (mvT hZ (hw _ (List.mem_of_getElem? (i := 8) rfl))) (mvT hZ (hw _ (List.mem_of_getElem? (i := 9) rfl))) (notFace_of_selects (args := #[]) (mvT hZ (hw _ (List.mem_of_getElem? (i := 40) rfl)))) (mvT hZ (hw _ (List.mem_of_getElem? (i := 40) rfl))) (mvT hZ (hw _ (List.mem_of_getElem? (i := 10) rfl))) (by decide) (backOf (W := 0) (own_r2_1 l Z a0 hw [] c0 c1 c2 c3 c4 c5 c6 c7 c8 c9 c10 c11 c12 c13 h0 n0 Z0 K) hZ (hw _ (List.mem_of_getElem? (i := 12) rfl)) (hw _ (List.mem_of_getElem? (i := 6) rfl)) (by decide) (by decide)) q2a q2c (g := (mkF m 48 #[.val (.int p0), .val (.int (1 : Int32)), .val (.ref c3), .val (.int (0 : Int32))] [(.ref c3)])) rfl (by rw [hml]; rfl) (Steps.refl _) (argsL := []) (rest := []) (lenOf own_pd2 rfl) rfl (by show 2 * 0 + _ ≤ _; exact Nat.le_of_eq rfl) (hb hby at_48) (fun _ _ => ⟨rfl, e1, (by decide : 0 + 0 ≤ _), (by decide : 0 + 0 ≤ _)⟩)
  dsimp only [Pt.U, Pt.locs, Pt.cells, Pt.slots] at X2 l2 y2 z2 st2 hQ2
  subst l2 y2 z2
  obtain ⟨rfl, N2q, e2⟩ := hQ2
  have N2 := Fr.app N1 N2q
  obtain ⟨fs, hr, hrun, hended, hW, hsame⟩ := X2.leave (v := some (.int (1 : Int32))) (fun h => by rw [Bd.returns] at h; cases h)
  refine ⟨_, _, pre0 _ ?_, hrun, hended, _, _, rfl, ?_, ⟨_, rfl⟩, hW, hsame.mono (by decide) (by decide)⟩
  · show Steps p.tables e below (s₁.setTop (mkF m 0 #[.val (.int p0), .unset, .unset, .unset] [])) _
    refine XS.iloadN X0.here hx rfl (hb hby at_0) rfl ?_
    show Steps p.tables e below (s₁.setTop (mkF m 1 #[.val (.int p0), .unset, .unset, .unset] [(.int p0)])) _
    refine X0.ldcInt hx hown (mvT hZ (hw _ (List.mem_of_getElem? (i := 0) rfl))) (g := (mkF m 1 #[.val (.int p0), .unset, .unset, .unset] [(.int p0)])) rfl (hb hby at_1) _ ?_
    show Steps p.tables e below (s₁.setTop (mkF m 3 #[.val (.int p0), .unset, .unset, .unset] [(.int (2147483647 : Int32)), (.int p0)])) _
    refine XS.iand X0.here hx rfl (hb hby at_3) rfl ?_
    show Steps p.tables e below (s₁.setTop (mkF m 4 #[.val (.int p0), .unset, .unset, .unset] [(.int (p0 &&& (2147483647 : Int32)))])) _
    refine XS.bipush X0.here hx rfl (hb hby at_4) ?_
    show Steps p.tables e below (s₁.setTop (mkF m 6 #[.val (.int p0), .unset, .unset, .unset] [(.int (9 : Int32)), (.int (p0 &&& (2147483647 : Int32)))])) _
    refine iremM X0 hx rfl (hb hby at_6) rfl (by decide) ?_
    show Steps p.tables e below (s₁.setTop (mkF m 7 #[.val (.int p0), .unset, .unset, .unset] [(.int ((p0 &&& (2147483647 : Int32)) % (9 : Int32)))])) _
    rw [hk0]
    show Steps p.tables e below (s₁.setTop (mkF m 7 #[.val (.int p0), .unset, .unset, .unset] [(.int (1 : Int32))])) _
    refine XS.istoreN X0.here hx rfl (hb hby at_7) rfl (l' := #[.val (.int p0), .val (.int (1 : Int32)), .unset, .unset]) rfl ?_
    show Steps p.tables e below (s₁.setTop (mkF m 8 #[.val (.int p0), .val (.int (1 : Int32)), .unset, .unset] [])) _
    refine XS.iloadN X0.here hx rfl (hb hby at_8) rfl ?_
    show Steps p.tables e below (s₁.setTop (mkF m 9 #[.val (.int p0), .val (.int (1 : Int32)), .unset, .unset] [(.int (1 : Int32))])) _
    refine st1 _ ?_
    show Steps p.tables e below (T1.setTop (mkF m 12 #[.val (.int p0), .val (.int (1 : Int32)), .unset, .unset] [(.ref c3)])) _
    refine XS.astoreN X1.here hx rfl (hb hby at_12) rfl rfl (l' := #[.val (.int p0), .val (.int (1 : Int32)), .val (.ref c3), .unset]) rfl ?_
    show Steps p.tables e below (T1.setTop (mkF m 13 #[.val (.int p0), .val (.int (1 : Int32)), .val (.ref c3), .unset] [])) _
    refine XS.iloadN X1.here hx rfl (hb hby at_13) rfl ?_
    show Steps p.tables e below (T1.setTop (mkF m 14 #[.val (.int p0), .val (.int (1 : Int32)), .val (.ref c3), .unset] [(.int (1 : Int32))])) _
    refine XS.iconst X1.here hx rfl (hb hby at_14) ?_
    show Steps p.tables e below (T1.setTop (mkF m 15 #[.val (.int p0), .val (.int (1 : Int32)), .val (.ref c3), .unset] [(.int (2 : Int32)), (.int (1 : Int32))])) _
    refine XS.icmpNo X1.here hx rfl (hb hby at_15) rfl (feq (by decide : ¬ ((1 : Int32) = (2 : Int32)))).1 ?_
    show Steps p.tables e below (T1.setTop (mkF m 18 #[.val (.int p0), .val (.int (1 : Int32)), .val (.ref c3), .unset] [])) _
    refine XS.iloadN X1.here hx rfl (hb hby at_18) rfl ?_
    show Steps p.tables e below (T1.setTop (mkF m 19 #[.val (.int p0), .val (.int (1 : Int32)), .val (.ref c3), .unset] [(.int (1 : Int32))])) _
    refine XS.iconst X1.here hx rfl (hb hby at_19) ?_
    show Steps p.tables e below (T1.setTop (mkF m 20 #[.val (.int p0), .val (.int (1 : Int32)), .val (.ref c3), .unset] [(.int (3 : Int32)), (.int (1 : Int32))])) _
    refine XS.icmpNo X1.here hx rfl (hb hby at_20) rfl (feq (by decide : ¬ ((1 : Int32) = (3 : Int32)))).1 ?_
    show Steps p.tables e below (T1.setTop (mkF m 23 #[.val (.int p0), .val (.int (1 : Int32)), .val (.ref c3), .unset] [])) _
    refine XS.iloadN X1.here hx rfl (hb hby at_23) rfl ?_
    show Steps p.tables e below (T1.setTop (mkF m 24 #[.val (.int p0), .val (.int (1 : Int32)), .val (.ref c3), .unset] [(.int (1 : Int32))])) _
    refine XS.bipush X1.here hx rfl (hb hby at_24) ?_
    show Steps p.tables e below (T1.setTop (mkF m 26 #[.val (.int p0), .val (.int (1 : Int32)), .val (.ref c3), .unset] [(.int (6 : Int32)), (.int (1 : Int32))])) _
    refine XS.icmpNo X1.here hx rfl (hb hby at_26) rfl (feq (by decide : ¬ ((1 : Int32) = (6 : Int32)))).1 ?_
    show Steps p.tables e below (T1.setTop (mkF m 29 #[.val (.int p0), .val (.int (1 : Int32)), .val (.ref c3), .unset] [])) _
    refine XS.iloadN X1.here hx rfl (hb hby at_29) rfl ?_
    show Steps p.tables e below (T1.setTop (mkF m 30 #[.val (.int p0), .val (.int (1 : Int32)), .val (.ref c3), .unset] [(.int (1 : Int32))])) _
    refine XS.bipush X1.here hx rfl (hb hby at_30) ?_
    show Steps p.tables e below (T1.setTop (mkF m 32 #[.val (.int p0), .val (.int (1 : Int32)), .val (.ref c3), .unset] [(.int (7 : Int32)), (.int (1 : Int32))])) _
    refine XS.icmpNo X1.here hx rfl (hb hby at_32) rfl (feq (by decide : ¬ ((1 : Int32) = (7 : Int32)))).1 ?_
    show Steps p.tables e below (T1.setTop (mkF m 35 #[.val (.int p0), .val (.int (1 : Int32)), .val (.ref c3), .unset] [])) _
    refine XS.iloadN X1.here hx rfl (hb hby at_35) rfl ?_
    show Steps p.tables e below (T1.setTop (mkF m 36 #[.val (.int p0), .val (.int (1 : Int32)), .val (.ref c3), .unset] [(.int (1 : Int32))])) _
    refine XS.bipush X1.here hx rfl (hb hby at_36) ?_
    show Steps p.tables e below (T1.setTop (mkF m 38 #[.val (.int p0), .val (.int (1 : Int32)), .val (.ref c3), .unset] [(.int (8 : Int32)), (.int (1 : Int32))])) _
    refine XS.icmpYes X1.here hx rfl (pc0 := 38) (pc' := 45) rfl (hb hby at_38) rfl (feq (by decide : ¬ ((1 : Int32) = (8 : Int32)))).2 (by decide) (by decide) ?_
    show Steps p.tables e below (T1.setTop (mkF m 45 #[.val (.int p0), .val (.int (1 : Int32)), .val (.ref c3), .unset] [])) _
    refine XS.iconst X1.here hx rfl (hb hby at_45) ?_
    show Steps p.tables e below (T1.setTop (mkF m 46 #[.val (.int p0), .val (.int (1 : Int32)), .val (.ref c3), .unset] [(.int (0 : Int32))])) _
    refine XS.istoreN X1.here hx rfl (hb hby at_46) rfl (l' := #[.val (.int p0), .val (.int (1 : Int32)), .val (.ref c3), .val (.int (0 : Int32))]) rfl ?_
    show Steps p.tables e below (T1.setTop (mkF m 47 #[.val (.int p0), .val (.int (1 : Int32)), .val (.ref c3), .val (.int (0 : Int32))] [])) _
    refine XS.aloadN X1.here hx rfl (hb hby at_47) rfl rfl ?_
    show Steps p.tables e below (T1.setTop (mkF m 48 #[.val (.int p0), .val (.int (1 : Int32)), .val (.ref c3), .val (.int (0 : Int32))] [(.ref c3)])) _
    refine st2.trans ?_
    show Steps p.tables e below (T2.setTop (mkF m 51 #[.val (.int p0), .val (.int (1 : Int32)), .val (.ref c3), .val (.int (0 : Int32))] [(.int (0 : Int32))])) _
    refine XS.iloadN X2.here hx rfl (hb hby at_51) rfl ?_
    show Steps p.tables e below (T2.setTop (mkF m 52 #[.val (.int p0), .val (.int (1 : Int32)), .val (.ref c3), .val (.int (0 : Int32))] [(.int (0 : Int32)), (.int (0 : Int32))])) _
    refine XS.icmpNo X2.here hx rfl (hb hby at_52) rfl (teq (by decide : (0 : Int32) = (0 : Int32))).2 ?_
    show Steps p.tables e below (T2.setTop (mkF m 55 #[.val (.int p0), .val (.int (1 : Int32)), .val (.ref c3), .val (.int (0 : Int32))] [])) _
    refine XS.iconst X2.here hx rfl (hb hby at_55) ?_
    show Steps p.tables e below (T2.setTop (mkF m 56 #[.val (.int p0), .val (.int (1 : Int32)), .val (.ref c3), .val (.int (0 : Int32))] [(.int (1 : Int32))])) _
    refine XS.goto X2.here hx rfl (pc0 := 56) (pc' := 60) rfl (hb hby at_56) (by decide) (by decide) ?_
    show Steps p.tables e below (T2.setTop (mkF m 60 #[.val (.int p0), .val (.int (1 : Int32)), .val (.ref c3), .val (.int (0 : Int32))] [(.int (1 : Int32))])) _
    exact retN X2 hx (t := .boolean) Bd.returns (by simp) (hb hby at_60) hr
  · show own_Q _ h0 n0 _ T2.heap _
    exact ⟨rfl, N2, e2⟩
theorem own_d1_17 : decode method_3_code 17 = .ok (.iload_n 0, 1) := by decide +kernel
theorem own_d1_18 : decode method_3_code 18 = .ok (.iconst 2, 1) := by decide +kernel
theorem own_d1_19 : decode method_3_code 19 = .ok (.if_icmp .ne 7, 3) := by decide +kernel
theorem own_d1_22 : decode method_3_code 22 = .ok (.getstatic 27, 3) := by decide +kernel
theorem own_d1_25 : decode method_3_code 25 = .ok (.areturn, 1) := by decide +kernel
set_option maxRecDepth 65536 in
set_option maxHeartbeats 40000000 in
theorem own_r1_2 (l : Launch) (Z : State) (a0 : Array Value) (hw : ∀ d ∈ tables_1, d.before a0 Z = true) (ws : List Jvm.Cond)  (c0 c1 c2 c3 c4 c5 c6 c7 c8 c9 c10 c11 c12 c13 : Addr) (h0 : Heap) (n0 : Nat) (Z0 : n0 ≤ h0.size) (K : own_W Z h0 c0 c1 c2 c3 c4 c5 c6 c7 c8 c9 c10 c11 c12 c13)  :
    MetFree l (⟨"com/example/midpoint/midpoint/rounding/ModeIsSymmetricPinLaw", "modeAt", "(I)Lcom/example/midpoint/midpoint/rounding/Mode;"⟩ : MethodName) (head1 (Jvm.Cond.code (⟨"com/example/midpoint/midpoint/rounding/ModeIsSymmetricPinLaw", "modeAt", "(I)Lcom/example/midpoint/midpoint/rounding/Mode;"⟩ : MethodName) method_3_code 1 (some (.object "com/example/midpoint/midpoint/rounding/Mode")) :: ws) ({ frames := 0, cells := 0, slots := 0, locals := 0 } : Room)) (fun a U => a = #[(.int (2 : Int32))] ∧ Z.Warmed39 U.vm ∧ U.heap = h0) (fun _ _ _ _ _ => True) (fun _ U o U' => ∃ v L, o = .returned v ∧ own_Q (.ref c2) h0 n0 v U'.heap L ∧ FrameEnd U o U' L ({ frames := 0, cells := 0, slots := 0, locals := 0 } : Room).cells ({ frames := 0, cells := 0, slots := 0, locals := 0 } : Room).slots) := by
  have K' := K
  obtain ⟨S0, E0, S1, E1, S2, E2, S3, E3, S4, E4, S5, E5, S6, E6, S7, E7, S8, E8, S9, E9, S10, E10, S11, E11, S12, E12, S13, E13, F0, F1, F2, F3, F4⟩ := K'
  refine MetFree.of_bodySF (plainFor_of_name own_pn0) hisR ?_
  intro p e s m args below meth c s₁ Bd hml0 hP hK
  obtain ⟨rfl, hZ, hh⟩ := hP
  have hx := Bd.exec
  have hby := Bd.bytes
  have hml : c.maxLocals = 1 := hml0
  have hown : s.vm.findClass "com/example/midpoint/midpoint/rounding/ModeIsSymmetricPinLaw" = some m.cls := findClass_of_methodNamed Bd.named
  have X0 : Stand p l e ({ frames := 0, cells := 0, slots := 0, locals := 0 } : Room) s m #[(.int (2 : Int32))] below meth c s₁ [] 0 0 := Stand.of_body Bd
  have e0 : s₁.heap = h0 := by rw [← hh, Bd.state]; rfl
  have N0 := Fr.nil n0
  have pre0 : ∀ t, Steps p.tables e below (s₁.setTop (mkF m 0 #[.val (.int (2 : Int32))] [])) t → Steps p.tables e below (s₁.setTop (entryFrame m #[(.int (2 : Int32))] 1)) t := fun t k => castTop (own_ef1 m (2 : Int32)) k
  obtain ⟨T1, X1, e1, st1⟩ := getS2 X0 hx hZ hown (host := "") (Or.inl (hw _ (List.mem_of_getElem? (i := 30) rfl))) Via.refl e0 S2 (g := (mkF m 22 #[.val (.int (2 : Int32))] [])) rfl (hb hby own_d1_22)
  obtain ⟨fs, hr, hrun, hended, hW, hsame⟩ := X1.leave (v := some (.ref c2)) (fun h => by rw [Bd.returns] at h; cases h)
  refine ⟨_, _, pre0 _ ?_, hrun, hended, _, _, rfl, ?_, ⟨_, rfl⟩, hW, hsame.mono (by decide) (by decide)⟩
  · show Steps p.tables e below (s₁.setTop (mkF m 0 #[.val (.int (2 : Int32))] [])) _
    refine XS.iloadN X0.here hx rfl (hb hby own_d1_0) rfl ?_
    show Steps p.tables e below (s₁.setTop (mkF m 1 #[.val (.int (2 : Int32))] [(.int (2 : Int32))])) _
    refine XS.ifYes X0.here hx rfl (pc0 := 1) (pc' := 8) rfl (hb hby own_d1_1) rfl ((if0 _ _).trans (feq (by decide : ¬ ((2 : Int32) = (0 : Int32)))).2) (by decide) (by decide) ?_
    show Steps p.tables e below (s₁.setTop (mkF m 8 #[.val (.int (2 : Int32))] [])) _
    refine XS.iloadN X0.here hx rfl (hb hby own_d1_8) rfl ?_
    show Steps p.tables e below (s₁.setTop (mkF m 9 #[.val (.int (2 : Int32))] [(.int (2 : Int32))])) _
    refine XS.iconst X0.here hx rfl (hb hby own_d1_9) ?_
    show Steps p.tables e below (s₁.setTop (mkF m 10 #[.val (.int (2 : Int32))] [(.int (1 : Int32)), (.int (2 : Int32))])) _
    refine XS.icmpYes X0.here hx rfl (pc0 := 10) (pc' := 17) rfl (hb hby own_d1_10) rfl (feq (by decide : ¬ ((2 : Int32) = (1 : Int32)))).2 (by decide) (by decide) ?_
    show Steps p.tables e below (s₁.setTop (mkF m 17 #[.val (.int (2 : Int32))] [])) _
    refine XS.iloadN X0.here hx rfl (hb hby own_d1_17) rfl ?_
    show Steps p.tables e below (s₁.setTop (mkF m 18 #[.val (.int (2 : Int32))] [(.int (2 : Int32))])) _
    refine XS.iconst X0.here hx rfl (hb hby own_d1_18) ?_
    show Steps p.tables e below (s₁.setTop (mkF m 19 #[.val (.int (2 : Int32))] [(.int (2 : Int32)), (.int (2 : Int32))])) _
    refine XS.icmpNo X0.here hx rfl (hb hby own_d1_19) rfl (teq (by decide : (2 : Int32) = (2 : Int32))).2 ?_
    show Steps p.tables e below (s₁.setTop (mkF m 22 #[.val (.int (2 : Int32))] [])) _
    refine st1 _ ?_
    show Steps p.tables e below (T1.setTop (mkF m 25 #[.val (.int (2 : Int32))] [(.ref c2)])) _
    jvm_step X1.here [X1.here.top, hx, (hb hby own_d1_25), X1.method', Bd.returns, Value.isRef, FieldType.isReference]
    first | (intro acts; rw [hr _ acts rfl rfl rfl]) | rw [hr _ _ rfl rfl rfl]
    exact Steps.refl _
  · show own_Q _ h0 n0 _ T1.heap _
    exact ⟨rfl, N0, e1⟩
theorem own_d5_0 : decode prog_22_method_2_code 0 = .ok (.getstatic 7, 3) := by decide +kernel
theorem own_d5_3 : decode prog_22_method_2_code 3 = .ok (.areturn, 1) := by decide +kernel
theorem own_pn4 : plainName "com/example/midpoint/midpoint/rounding/Mode$3" = true := by first | (simp [plainName, overriddenIn]; done) | decide +kernel
theorem own_ef5 (m : MethodId) (x0 : Addr) (x1 : Int32) : entryFrame m #[(.ref x0), (.int x1)] 2 = mkF m 0 #[.val (.ref x0), .val (.int x1)] [] := by first | (simp [entryFrame, mkF, argsToLocals, Value.category]; done) | rfl
set_option maxRecDepth 65536 in
set_option maxHeartbeats 40000000 in
theorem own_r5_0 (l : Launch) (Z : State) (a0 : Array Value) (hw : ∀ d ∈ tables_1, d.before a0 Z = true) (ws : List Jvm.Cond)  (c0 c1 c2 c3 c4 c5 c6 c7 c8 c9 c10 c11 c12 c13 : Addr) (h0 : Heap) (n0 : Nat) (Z0 : n0 ≤ h0.size) (K : own_W Z h0 c0 c1 c2 c3 c4 c5 c6 c7 c8 c9 c10 c11 c12 c13)  :
    MetFree l (⟨"com/example/midpoint/midpoint/rounding/Mode$3", "onMagnitude", "(Z)Ljava/math/RoundingMode;"⟩ : MethodName) (head1 (Jvm.Cond.code (⟨"com/example/midpoint/midpoint/rounding/Mode$3", "onMagnitude", "(Z)Ljava/math/RoundingMode;"⟩ : MethodName) prog_22_method_2_code 2 (some (.object "java/math/RoundingMode")) :: ws) ({ frames := 0, cells := 0, slots := 0, locals := 0 } : Room)) (fun a U => a = #[(.ref c2), (.int (0 : Int32))] ∧ Z.Warmed39 U.vm ∧ U.heap = h0) (fun _ _ _ _ _ => True) (fun _ U o U' => ∃ v L, o = .returned v ∧ own_Q (.ref c9) h0 n0 v U'.heap L ∧ FrameEnd U o U' L ({ frames := 0, cells := 0, slots := 0, locals := 0 } : Room).cells ({ frames := 0, cells := 0, slots := 0, locals := 0 } : Room).slots) := by
  have K' := K
  obtain ⟨S0, E0, S1, E1, S2, E2, S3, E3, S4, E4, S5, E5, S6, E6, S7, E7, S8, E8, S9, E9, S10, E10, S11, E11, S12, E12, S13, E13, F0, F1, F2, F3, F4⟩ := K'
  refine MetFree.of_bodySF (plainFor_of_name own_pn4) hisR ?_
  intro p e s m args below meth c s₁ Bd hml0 hP hK
  obtain ⟨rfl, hZ, hh⟩ := hP
  have hx := Bd.exec
  have hby := Bd.bytes
  have hml : c.maxLocals = 2 := hml0
  have hown : s.vm.findClass "com/example/midpoint/midpoint/rounding/Mode$3" = some m.cls := findClass_of_methodNamed Bd.named
  have X0 : Stand p l e ({ frames := 0, cells := 0, slots := 0, locals := 0 } : Room) s m #[(.ref c2), (.int (0 : Int32))] below meth c s₁ [] 0 0 := Stand.of_body Bd
  have e0 : s₁.heap = h0 := by rw [← hh, Bd.state]; rfl
  have N0 := Fr.nil n0
  have pre0 : ∀ t, Steps p.tables e below (s₁.setTop (mkF m 0 #[.val (.ref c2), .val (.int (0 : Int32))] [])) t → Steps p.tables e below (s₁.setTop (entryFrame m #[(.ref c2), (.int (0 : Int32))] 2)) t := fun t k => castTop (own_ef5 m c2 (0 : Int32)) k
  obtain ⟨T1, X1, e1, st1⟩ := getS2 X0 hx hZ hown (host := "") (Or.inl (hw _ (List.mem_of_getElem? (i := 37) rfl))) Via.refl e0 S9 (g := (mkF m 0 #[.val (.ref c2), .val (.int (0 : Int32))] [])) rfl (hb hby own_d5_0)
  obtain ⟨fs, hr, hrun, hended, hW, hsame⟩ := X1.leave (v := some (.ref c9)) (fun h => by rw [Bd.returns] at h; cases h)
  refine ⟨_, _, pre0 _ ?_, hrun, hended, _, _, rfl, ?_, ⟨_, rfl⟩, hW, hsame.mono (by decide) (by decide)⟩
  · show Steps p.tables e below (s₁.setTop (mkF m 0 #[.val (.ref c2), .val (.int (0 : Int32))] [])) _
    refine st1 _ ?_
    show Steps p.tables e below (T1.setTop (mkF m 3 #[.val (.ref c2), .val (.int (0 : Int32))] [(.ref c9)])) _
    jvm_step X1.here [X1.here.top, hx, (hb hby own_d5_3), X1.method', Bd.returns, Value.isRef, FieldType.isReference]
    first | (intro acts; rw [hr _ acts rfl rfl rfl]) | rw [hr _ _ rfl rfl rfl]
    exact Steps.refl _
  · show own_Q _ h0 n0 _ T1.heap _
    exact ⟨rfl, N0, e1⟩
set_option maxRecDepth 65536 in
set_option maxHeartbeats 40000000 in
theorem own_r5_1 (l : Launch) (Z : State) (a0 : Array Value) (hw : ∀ d ∈ tables_1, d.before a0 Z = true) (ws : List Jvm.Cond)  (c0 c1 c2 c3 c4 c5 c6 c7 c8 c9 c10 c11 c12 c13 : Addr) (h0 : Heap) (n0 : Nat) (Z0 : n0 ≤ h0.size) (K : own_W Z h0 c0 c1 c2 c3 c4 c5 c6 c7 c8 c9 c10 c11 c12 c13)  :
    MetFree l (⟨"com/example/midpoint/midpoint/rounding/Mode$3", "onMagnitude", "(Z)Ljava/math/RoundingMode;"⟩ : MethodName) (head1 (Jvm.Cond.code (⟨"com/example/midpoint/midpoint/rounding/Mode$3", "onMagnitude", "(Z)Ljava/math/RoundingMode;"⟩ : MethodName) prog_22_method_2_code 2 (some (.object "java/math/RoundingMode")) :: ws) ({ frames := 0, cells := 0, slots := 0, locals := 0 } : Room)) (fun a U => a = #[(.ref c2), (.int (1 : Int32))] ∧ Z.Warmed39 U.vm ∧ U.heap = h0) (fun _ _ _ _ _ => True) (fun _ U o U' => ∃ v L, o = .returned v ∧ own_Q (.ref c9) h0 n0 v U'.heap L ∧ FrameEnd U o U' L ({ frames := 0, cells := 0, slots := 0, locals := 0 } : Room).cells ({ frames := 0, cells := 0, slots := 0, locals := 0 } : Room).slots) := by
  have K' := K
  obtain ⟨S0, E0, S1, E1, S2, E2, S3, E3, S4, E4, S5, E5, S6, E6, S7, E7, S8, E8, S9, E9, S10, E10, S11, E11, S12, E12, S13, E13, F0, F1, F2, F3, F4⟩ := K'
  refine MetFree.of_bodySF (plainFor_of_name own_pn4) hisR ?_
  intro p e s m args below meth c s₁ Bd hml0 hP hK
  obtain ⟨rfl, hZ, hh⟩ := hP
  have hx := Bd.exec
  have hby := Bd.bytes
  have hml : c.maxLocals = 2 := hml0
  have hown : s.vm.findClass "com/example/midpoint/midpoint/rounding/Mode$3" = some m.cls := findClass_of_methodNamed Bd.named
  have X0 : Stand p l e ({ frames := 0, cells := 0, slots := 0, locals := 0 } : Room) s m #[(.ref c2), (.int (1 : Int32))] below meth c s₁ [] 0 0 := Stand.of_body Bd
  have e0 : s₁.heap = h0 := by rw [← hh, Bd.state]; rfl
  have N0 := Fr.nil n0
  have pre0 : ∀ t, Steps p.tables e below (s₁.setTop (mkF m 0 #[.val (.ref c2), .val (.int (1 : Int32))] [])) t → Steps p.tables e below (s₁.setTop (entryFrame m #[(.ref c2), (.int (1 : Int32))] 2)) t := fun t k => castTop (own_ef5 m c2 (1 : Int32)) k
  obtain ⟨T1, X1, e1, st1⟩ := getS2 X0 hx hZ hown (host := "") (Or.inl (hw _ (List.mem_of_getElem? (i := 37) rfl))) Via.refl e0 S9 (g := (mkF m 0 #[.val (.ref c2), .val (.int (1 : Int32))] [])) rfl (hb hby own_d5_0)
  obtain ⟨fs, hr, hrun, hended, hW, hsame⟩ := X1.leave (v := some (.ref c9)) (fun h => by rw [Bd.returns] at h; cases h)
  refine ⟨_, _, pre0 _ ?_, hrun, hended, _, _, rfl, ?_, ⟨_, rfl⟩, hW, hsame.mono (by decide) (by decide)⟩
  · show Steps p.tables e below (s₁.setTop (mkF m 0 #[.val (.ref c2), .val (.int (1 : Int32))] [])) _
    refine st1 _ ?_
    show Steps p.tables e below (T1.setTop (mkF m 3 #[.val (.ref c2), .val (.int (1 : Int32))] [(.ref c9)])) _
    jvm_step X1.here [X1.here.top, hx, (hb hby own_d5_3), X1.method', Bd.returns, Value.isRef, FieldType.isReference]
    first | (intro acts; rw [hr _ acts rfl rfl rfl]) | rw [hr _ _ rfl rfl rfl]
    exact Steps.refl _
  · show own_Q _ h0 n0 _ T1.heap _
    exact ⟨rfl, N0, e1⟩
theorem own_d2_13 : decode prog_19_method_7_code 13 = .ok (.iconst 1, 1) := by decide +kernel
theorem own_d2_14 : decode prog_19_method_7_code 14 = .ok (.goto 4, 3) := by decide +kernel
set_option maxRecDepth 65536 in
set_option maxHeartbeats 40000000 in
theorem own_r2_2 (l : Launch) (Z : State) (a0 : Array Value) (hw : ∀ d ∈ tables_1, d.before a0 Z = true) (ws : List Jvm.Cond)  (c0 c1 c2 c3 c4 c5 c6 c7 c8 c9 c10 c11 c12 c13 : Addr) (h0 : Heap) (n0 : Nat) (Z0 : n0 ≤ h0.size) (K : own_W Z h0 c0 c1 c2 c3 c4 c5 c6 c7 c8 c9 c10 c11 c12 c13)  :
    MetFree l (⟨"com/example/midpoint/midpoint/rounding/Mode", "isSymmetric", "()Z"⟩ : MethodName) (head1 (Jvm.Cond.code (⟨"com/example/midpoint/midpoint/rounding/Mode", "isSymmetric", "()Z"⟩ : MethodName) prog_19_method_7_code 1 (some .boolean) :: ws) ({ frames := 1, cells := 0, slots := 0, locals := 14 } : Room)) (fun a U => a = #[(.ref c2)] ∧ Z.Warmed39 U.vm ∧ U.heap = h0) (fun _ _ _ _ _ => True) (fun _ U o U' => ∃ v L, o = .returned v ∧ own_Q (.int (1 : Int32)) h0 n0 v U'.heap L ∧ FrameEnd U o U' L ({ frames := 1, cells := 0, slots := 0, locals := 14 } : Room).cells ({ frames := 1, cells := 0, slots := 0, locals := 14 } : Room).slots) := by
  have K' := K
  obtain ⟨S0, E0, S1, E1, S2, E2, S3, E3, S4, E4, S5, E5, S6, E6, S7, E7, S8, E8, S9, E9, S10, E10, S11, E11, S12, E12, S13, E13, F0, F1, F2, F3, F4⟩ := K'
  refine MetFree.of_bodySF (plainFor_of_name own_pn2) hisR ?_
  intro p e s m args below meth c s₁ Bd hml0 hP hK
  obtain ⟨rfl, hZ, hh⟩ := hP
  have hx := Bd.exec
  have hby := Bd.bytes
  have hml : c.maxLocals = 1 := hml0
  have hown : s.vm.findClass "com/example/midpoint/midpoint/rounding/Mode" = some m.cls := findClass_of_methodNamed Bd.named
  have X0 : Stand p l e ({ frames := 1, cells := 0, slots := 0, locals := 14 } : Room) s m #[(.ref c2)] below meth c s₁ [] 0 0 := Stand.of_body Bd
  have e0 : s₁.heap = h0 := by rw [← hh, Bd.state]; rfl
  have N0 := Fr.nil n0
  have pre0 : ∀ t, Steps p.tables e below (s₁.setTop (mkF m 0 #[.val (.ref c2)] [])) t → Steps p.tables e below (s₁.setTop (entryFrame m #[(.ref c2)] 1)) t := fun t k => castTop (own_ef2 m c2) k
  obtain ⟨cq1, kq1, q1a, q1b, q1c⟩ := isOf hZ e0 E2
  obtain ⟨_, _, ⟨T1, L1, k1, n1⟩, -, X1, ⟨Lc1, hQ1, l1, y1, z1⟩, st1⟩ := X0.virtualBack hx (y := (⟨"com/example/midpoint/midpoint/rounding/Mode", "onMagnitude", "(Z)Ljava/math/RoundingMode;"⟩ : MethodName)) (z := (⟨"com/example/midpoint/midpoint/rounding/Mode$3", "onMagnitude", "(Z)Ljava/math/RoundingMode;"⟩ : MethodName)) hown (mvT hZ (hw _ (List.mem_of_getElem? (i := 13) rfl))) (mvT hZ (hw _ (List.mem_of_getElem? (i := 14) rfl))) (own_nf (args := #[]) (D := "com/example/midpoint/midpoint/rounding/Mode$1") (n := "isSymmetric") (d := "()Z") (mvT hZ (hw _ (List.mem_of_getElem? (i := 11) rfl))) (mvT hZ (hw _ (List.mem_of_getElem? (i := 9) rfl)))) (mvT hZ (hw _ (List.mem_of_getElem? (i := 33) rfl))) (mvT hZ (hw _ (List.mem_of_getElem? (i := 34) rfl))) (by decide) (backOf (W := 0) (own_r5_0 l Z a0 hw [] c0 c1 c2 c3 c4 c5 c6 c7 c8 c9 c10 c11 c12 c13 h0 n0 Z0 K) hZ (hw _ (List.mem_of_getElem? (i := 36) rfl)) (hw _ (List.mem_of_getElem? (i := 35) rfl)) (by decide) (by decide)) q1a q1c (g := (mkF m 2 #[.val (.ref c2)] [(.int (0 : Int32)), (.ref c2)])) rfl (by rw [hml]; rfl) (Steps.refl _) (argsL := [(.int (0 : Int32))]) (rest := []) (lenOf own_pd1 rfl) rfl (by show 2 * 0 + _ ≤ _; exact Nat.le_of_eq rfl) (hb hby own_d2_2) (fun _ _ => ⟨rfl, e0, (by decide : 0 + 0 ≤ _), (by decide : 0 + 0 ≤ _)⟩)
  dsimp only [Pt.U, Pt.locs, Pt.cells, Pt.slots] at X1 l1 y1 z1 st1 hQ1
  subst l1 y1 z1
  obtain ⟨rfl, N1q, e1⟩ := hQ1
  have N1 := Fr.app N0 N1q
  obtain ⟨cq2, kq2, q2a, q2b, q2c⟩ := isOf hZ e1 E2
  obtain ⟨_, _, ⟨T2, L2, k2, n2⟩, -, X2, ⟨Lc2, hQ2, l2, y2, z2⟩, st2⟩ := X1.virtualBack hx (y := (⟨"com/example/midpoint/midpoint/rounding/Mode", "onMagnitude", "(Z)Ljava/math/RoundingMode;"⟩ : MethodName)) (z := (⟨"com/example/midpoint/midpoint/rounding/Mode$3", "onMagnitude", "(Z)Ljava/math/RoundingMode;"⟩ : MethodName)) hown (mvT hZ (hw _ (List.mem_of_getElem? (i := 13) rfl))) (mvT hZ (hw _ (List.mem_of_getElem? (i := 14) rfl))) (own_nf (args := #[]) (D := "com/example/midpoint/midpoint/rounding/Mode$1") (n := "isSymmetric") (d := "()Z") (mvT hZ (hw _ (List.mem_of_getElem? (i := 11) rfl))) (mvT hZ (hw _ (List.mem_of_getElem? (i := 9) rfl)))) (mvT hZ (hw _ (List.mem_of_getElem? (i := 33) rfl))) (mvT hZ (hw _ (List.mem_of_getElem? (i := 34) rfl))) (by decide) (backOf (W := 1) (own_r5_1 l Z a0 hw [] c0 c1 c2 c3 c4 c5 c6 c7 c8 c9 c10 c11 c12 c13 h0 n0 Z0 K) hZ (hw _ (List.mem_of_getElem? (i := 36) rfl)) (hw _ (List.mem_of_getElem? (i := 35) rfl)) (by decide) (by decide)) q2a q2c (g := (mkF m 7 #[.val (.ref c2)] [(.int (1 : Int32)), (.ref c2), (.ref c9)])) rfl (by rw [hml]; rfl) (Steps.refl _) (argsL := [(.int (1 : Int32))]) (rest := [(.ref c9)]) (lenOf own_pd1 rfl) rfl (by show 2 * 0 + _ ≤ _; exact Nat.le_of_eq rfl) (hb hby own_d2_7) (fun _ _ => ⟨rfl, e1, (by decide : 0 + 0 ≤ _), (by decide : 0 + 0 ≤ _)⟩)
  dsimp only [Pt.U, Pt.locs, Pt.cells, Pt.slots] at X2 l2 y2 z2 st2 hQ2
  subst l2 y2 z2
  obtain ⟨rfl, N2q, e2⟩ := hQ2
  have N2 := Fr.app N1 N2q
  obtain ⟨fs, hr, hrun, hended, hW, hsame⟩ := X2.leave (v := some (.int (1 : Int32))) (fun h => by rw [Bd.returns] at h; cases h)
  refine ⟨_, _, pre0 _ ?_, hrun, hended, _, _, rfl, ?_, ⟨_, rfl⟩, hW, hsame.mono (by decide) (by decide)⟩
  · show Steps p.tables e below (s₁.setTop (mkF m 0 #[.val (.ref c2)] [])) _
    refine XS.aloadN X0.here hx rfl (hb hby own_d2_0) rfl rfl ?_
    show Steps p.tables e below (s₁.setTop (mkF m 1 #[.val (.ref c2)] [(.ref c2)])) _
    refine XS.iconst X0.here hx rfl (hb hby own_d2_1) ?_
    show Steps p.tables e below (s₁.setTop (mkF m 2 #[.val (.ref c2)] [(.int (0 : Int32)), (.ref c2)])) _
    refine st1.trans ?_
    show Steps p.tables e below (T1.setTop (mkF m 5 #[.val (.ref c2)] [(.ref c9)])) _
    refine XS.aloadN X1.here hx rfl (hb hby own_d2_5) rfl rfl ?_
    show Steps p.tables e below (T1.setTop (mkF m 6 #[.val (.ref c2)] [(.ref c2), (.ref c9)])) _
    refine XS.iconst X1.here hx rfl (hb hby own_d2_6) ?_
    show Steps p.tables e below (T1.setTop (mkF m 7 #[.val (.ref c2)] [(.int (1 : Int32)), (.ref c2), (.ref c9)])) _
    refine st2.trans ?_
    show Steps p.tables e below (T2.setTop (mkF m 10 #[.val (.ref c2)] [(.ref c9), (.ref c9)])) _
    refine Jvm.RoadKit.acmp (g := (mkF m 10 #[.val (.ref c2)] [(.ref c9), (.ref c9)])) X2 hx rfl rfl rfl (pc0 := 10) (pc' := 13) (same := true) rfl (hb hby own_d2_10) rfl (decide_eq_true rfl) (by decide) (by decide) ?_
    show Steps p.tables e below (T2.setTop (mkF m 13 #[.val (.ref c2)] [])) _
    refine XS.iconst X2.here hx rfl (hb hby own_d2_13) ?_
    show Steps p.tables e below (T2.setTop (mkF m 14 #[.val (.ref c2)] [(.int (1 : Int32))])) _
    refine XS.goto X2.here hx rfl (pc0 := 14) (pc' := 18) rfl (hb hby own_d2_14) (by decide) (by decide) ?_
    show Steps p.tables e below (T2.setTop (mkF m 18 #[.val (.ref c2)] [(.int (1 : Int32))])) _
    exact retN X2 hx (t := .boolean) Bd.returns (by simp) (hb hby own_d2_18) hr
  · show own_Q _ h0 n0 _ T2.heap _
    exact ⟨rfl, N2, e2⟩
set_option maxRecDepth 65536 in
set_option maxHeartbeats 40000000 in
theorem own_r0_2 (l : Launch) (Z : State) (a0 : Array Value) (hw : ∀ d ∈ tables_1, d.before a0 Z = true) (ws : List Jvm.Cond) (p0 : Int32) (c0 c1 c2 c3 c4 c5 c6 c7 c8 c9 c10 c11 c12 c13 : Addr) (h0 : Heap) (n0 : Nat) (Z0 : n0 ≤ h0.size) (K : own_W Z h0 c0 c1 c2 c3 c4 c5 c6 c7 c8 c9 c10 c11 c12 c13) (hk0 : ((p0 &&& (2147483647 : Int32)) % (9 : Int32)) = (2 : Int32)) :
    MetFree l x (head1 (Jvm.Cond.code x code maxLocals ret :: ws) room_1) (fun a U => a = #[(.int p0)] ∧ Z.Warmed39 U.vm ∧ U.heap = h0) (fun _ _ _ _ _ => True) (fun _ U o U' => ∃ v L, o = .returned v ∧ own_Q (.int (1 : Int32)) h0 n0 v U'.heap L ∧ FrameEnd U o U' L room_1.cells room_1.slots) := by
  have K' := K
  obtain ⟨S0, E0, S1, E1, S2, E2, S3, E3, S4, E4, S5, E5, S6, E6, S7, E7, S8, E8, S9, E9, S10, E10, S11, E11, S12, E12, S13, E13, F0, F1, F2, F3, F4⟩ := K'
  refine MetFree.of_bodySF (plainFor_of_name own_pn0) hisR ?_
  intro p e s m args below meth c s₁ Bd hml0 hP hK
  obtain ⟨rfl, hZ, hh⟩ := hP
  have hx := Bd.exec
  have hby := Bd.bytes
  have hml : c.maxLocals = 4 := hml0
  have hown : s.vm.findClass "com/example/midpoint/midpoint/rounding/ModeIsSymmetricPinLaw" = some m.cls := findClass_of_methodNamed Bd.named
  have X0 : Stand p l e room_1 s m #[(.int p0)] below meth c s₁ [] 0 0 := Stand.of_body Bd
  have e0 : s₁.heap = h0 := by rw [← hh, Bd.state]; rfl
  have N0 := Fr.nil n0
  have pre0 : ∀ t, Steps p.tables e below (s₁.setTop (mkF m 0 #[.val (.int p0), .unset, .unset, .unset] [])) t → Steps p.tables e below (s₁.setTop (entryFrame m #[(.int p0)] maxLocals)) t := fun t k => castTop (own_ef0 m p0) k
  obtain ⟨_, _, ⟨T1, L1, k1, n1⟩, -, X1, ⟨Lc1, hQ1, l1, y1, z1⟩, st1⟩ := Jvm.LawKit.callS X0 hx (y := (⟨"com/example/midpoint/midpoint/rounding/ModeIsSymmetricPinLaw", "modeAt", "(I)Lcom/example/midpoint/midpoint/rounding/Mode;"⟩ : MethodName)) hown (mvT hZ (hw _ (List.mem_of_getElem? (i := 1) rfl))) (mvT hZ (hw _ (List.mem_of_getElem? (i := 2) rfl))) (mvT hZ (hw _ (List.mem_of_getElem? (i := 3) rfl))) (mvT hZ (hw _ (List.mem_of_getElem? (i := 4) rfl))) (by decide) (backOf (W := 0) (own_r1_2 l Z a0 hw [] c0 c1 c2 c3 c4 c5 c6 c7 c8 c9 c10 c11 c12 c13 h0 n0 Z0 K) hZ (hw _ (List.mem_of_getElem? (i := 4) rfl)) (hw _ (List.mem_of_getElem? (i := 3) rfl)) (by decide) (by decide)) (g := (mkF m 9 #[.val (.int p0), .val (.int (2 : Int32)), .unset, .unset] [(.int (2 : Int32))])) rfl (by rw [hml]; rfl) (argsL := [(.int (2 : Int32))]) (rest := []) (lenOf own_pd0 rfl) rfl (by show 2 * 0 + _ ≤ _; exact Nat.le_of_eq rfl) (hb hby at_9) (fun _ _ => ⟨rfl, e0, (by decide : 0 + 0 ≤ _), (by decide : 0 + 0 ≤ _)⟩)
  dsimp only [Pt.U, Pt.locs, Pt.cells, Pt.slots] at X1 l1 y1 z1 st1 hQ1
  subst l1 y1 z1
  obtain ⟨rfl, N1q, e1⟩ := hQ1
  have N1 := Fr.app N0 N1q
  obtain ⟨cq2, kq2, q2a, q2b, q2c⟩ := isOf hZ e1 E2
  obtain ⟨_, _, ⟨T2, L2, k2, n2⟩, -, X2, ⟨Lc2, hQ2, l2, y2, z2⟩, st2⟩ := X1.virtualBack hx (y := (⟨"com/example/midpoint/midpoint/rounding/Mode", "isSymmetric", "()Z"⟩ : MethodName)) (z := (⟨"com/example/midpoint/midpoint/rounding/Mode", "isSymmetric", "()Z"⟩ : MethodName)) hown (mvT hZ (hw _ (List.mem_of_getElem? (i := 8) rfl))) (mvT hZ (hw _ (List.mem_of_getElem? (i := 9) rfl))) (notFace_of_selects (args := #[]) (mvT hZ (hw _ (List.mem_of_getElem? (i := 32) rfl)))) (mvT hZ (hw _ (List.mem_of_getElem? (i := 32) rfl))) (mvT hZ (hw _ (List.mem_of_getElem? (i := 10) rfl))) (by decide) (backOf (W := 0) (own_r2_2 l Z a0 hw [] c0 c1 c2 c3 c4 c5 c6 c7 c8 c9 c10 c11 c12 c13 h0 n0 Z0 K) hZ (hw _ (List.mem_of_getElem? (i := 12) rfl)) (hw _ (List.mem_of_getElem? (i := 6) rfl)) (by decide) (by decide)) q2a q2c (g := (mkF m 48 #[.val (.int p0), .val (.int (2 : Int32)), .val (.ref c2), .val (.int (1 : Int32))] [(.ref c2)])) rfl (by rw [hml]; rfl) (Steps.refl _) (argsL := []) (rest := []) (lenOf own_pd2 rfl) rfl (by show 2 * 0 + _ ≤ _; exact Nat.le_of_eq rfl) (hb hby at_48) (fun _ _ => ⟨rfl, e1, (by decide : 0 + 0 ≤ _), (by decide : 0 + 0 ≤ _)⟩)
  dsimp only [Pt.U, Pt.locs, Pt.cells, Pt.slots] at X2 l2 y2 z2 st2 hQ2
  subst l2 y2 z2
  obtain ⟨rfl, N2q, e2⟩ := hQ2
  have N2 := Fr.app N1 N2q
  obtain ⟨fs, hr, hrun, hended, hW, hsame⟩ := X2.leave (v := some (.int (1 : Int32))) (fun h => by rw [Bd.returns] at h; cases h)
  refine ⟨_, _, pre0 _ ?_, hrun, hended, _, _, rfl, ?_, ⟨_, rfl⟩, hW, hsame.mono (by decide) (by decide)⟩
  · show Steps p.tables e below (s₁.setTop (mkF m 0 #[.val (.int p0), .unset, .unset, .unset] [])) _
    refine XS.iloadN X0.here hx rfl (hb hby at_0) rfl ?_
    show Steps p.tables e below (s₁.setTop (mkF m 1 #[.val (.int p0), .unset, .unset, .unset] [(.int p0)])) _
    refine X0.ldcInt hx hown (mvT hZ (hw _ (List.mem_of_getElem? (i := 0) rfl))) (g := (mkF m 1 #[.val (.int p0), .unset, .unset, .unset] [(.int p0)])) rfl (hb hby at_1) _ ?_
    show Steps p.tables e below (s₁.setTop (mkF m 3 #[.val (.int p0), .unset, .unset, .unset] [(.int (2147483647 : Int32)), (.int p0)])) _
    refine XS.iand X0.here hx rfl (hb hby at_3) rfl ?_
    show Steps p.tables e below (s₁.setTop (mkF m 4 #[.val (.int p0), .unset, .unset, .unset] [(.int (p0 &&& (2147483647 : Int32)))])) _
    refine XS.bipush X0.here hx rfl (hb hby at_4) ?_
    show Steps p.tables e below (s₁.setTop (mkF m 6 #[.val (.int p0), .unset, .unset, .unset] [(.int (9 : Int32)), (.int (p0 &&& (2147483647 : Int32)))])) _
    refine iremM X0 hx rfl (hb hby at_6) rfl (by decide) ?_
    show Steps p.tables e below (s₁.setTop (mkF m 7 #[.val (.int p0), .unset, .unset, .unset] [(.int ((p0 &&& (2147483647 : Int32)) % (9 : Int32)))])) _
    rw [hk0]
    show Steps p.tables e below (s₁.setTop (mkF m 7 #[.val (.int p0), .unset, .unset, .unset] [(.int (2 : Int32))])) _
    refine XS.istoreN X0.here hx rfl (hb hby at_7) rfl (l' := #[.val (.int p0), .val (.int (2 : Int32)), .unset, .unset]) rfl ?_
    show Steps p.tables e below (s₁.setTop (mkF m 8 #[.val (.int p0), .val (.int (2 : Int32)), .unset, .unset] [])) _
    refine XS.iloadN X0.here hx rfl (hb hby at_8) rfl ?_
    show Steps p.tables e below (s₁.setTop (mkF m 9 #[.val (.int p0), .val (.int (2 : Int32)), .unset, .unset] [(.int (2 : Int32))])) _
    refine st1 _ ?_
    show Steps p.tables e below (T1.setTop (mkF m 12 #[.val (.int p0), .val (.int (2 : Int32)), .unset, .unset] [(.ref c2)])) _
    refine XS.astoreN X1.here hx rfl (hb hby at_12) rfl rfl (l' := #[.val (.int p0), .val (.int (2 : Int32)), .val (.ref c2), .unset]) rfl ?_
    show Steps p.tables e below (T1.setTop (mkF m 13 #[.val (.int p0), .val (.int (2 : Int32)), .val (.ref c2), .unset] [])) _
    refine XS.iloadN X1.here hx rfl (hb hby at_13) rfl ?_
    show Steps p.tables e below (T1.setTop (mkF m 14 #[.val (.int p0), .val (.int (2 : Int32)), .val (.ref c2), .unset] [(.int (2 : Int32))])) _
    refine XS.iconst X1.here hx rfl (hb hby at_14) ?_
    show Steps p.tables e below (T1.setTop (mkF m 15 #[.val (.int p0), .val (.int (2 : Int32)), .val (.ref c2), .unset] [(.int (2 : Int32)), (.int (2 : Int32))])) _
    refine XS.icmpYes X1.here hx rfl (pc0 := 15) (pc' := 41) rfl (hb hby at_15) rfl (teq (by decide : (2 : Int32) = (2 : Int32))).1 (by decide) (by decide) ?_
    show Steps p.tables e below (T1.setTop (mkF m 41 #[.val (.int p0), .val (.int (2 : Int32)), .val (.ref c2), .unset] [])) _
    refine XS.iconst X1.here hx rfl (hb hby at_41) ?_
    show Steps p.tables e below (T1.setTop (mkF m 42 #[.val (.int p0), .val (.int (2 : Int32)), .val (.ref c2), .unset] [(.int (1 : Int32))])) _
    refine XS.goto X1.here hx rfl (pc0 := 42) (pc' := 46) rfl (hb hby at_42) (by decide) (by decide) ?_
    show Steps p.tables e below (T1.setTop (mkF m 46 #[.val (.int p0), .val (.int (2 : Int32)), .val (.ref c2), .unset] [(.int (1 : Int32))])) _
    refine XS.istoreN X1.here hx rfl (hb hby at_46) rfl (l' := #[.val (.int p0), .val (.int (2 : Int32)), .val (.ref c2), .val (.int (1 : Int32))]) rfl ?_
    show Steps p.tables e below (T1.setTop (mkF m 47 #[.val (.int p0), .val (.int (2 : Int32)), .val (.ref c2), .val (.int (1 : Int32))] [])) _
    refine XS.aloadN X1.here hx rfl (hb hby at_47) rfl rfl ?_
    show Steps p.tables e below (T1.setTop (mkF m 48 #[.val (.int p0), .val (.int (2 : Int32)), .val (.ref c2), .val (.int (1 : Int32))] [(.ref c2)])) _
    refine st2.trans ?_
    show Steps p.tables e below (T2.setTop (mkF m 51 #[.val (.int p0), .val (.int (2 : Int32)), .val (.ref c2), .val (.int (1 : Int32))] [(.int (1 : Int32))])) _
    refine XS.iloadN X2.here hx rfl (hb hby at_51) rfl ?_
    show Steps p.tables e below (T2.setTop (mkF m 52 #[.val (.int p0), .val (.int (2 : Int32)), .val (.ref c2), .val (.int (1 : Int32))] [(.int (1 : Int32)), (.int (1 : Int32))])) _
    refine XS.icmpNo X2.here hx rfl (hb hby at_52) rfl (teq (by decide : (1 : Int32) = (1 : Int32))).2 ?_
    show Steps p.tables e below (T2.setTop (mkF m 55 #[.val (.int p0), .val (.int (2 : Int32)), .val (.ref c2), .val (.int (1 : Int32))] [])) _
    refine XS.iconst X2.here hx rfl (hb hby at_55) ?_
    show Steps p.tables e below (T2.setTop (mkF m 56 #[.val (.int p0), .val (.int (2 : Int32)), .val (.ref c2), .val (.int (1 : Int32))] [(.int (1 : Int32))])) _
    refine XS.goto X2.here hx rfl (pc0 := 56) (pc' := 60) rfl (hb hby at_56) (by decide) (by decide) ?_
    show Steps p.tables e below (T2.setTop (mkF m 60 #[.val (.int p0), .val (.int (2 : Int32)), .val (.ref c2), .val (.int (1 : Int32))] [(.int (1 : Int32))])) _
    exact retN X2 hx (t := .boolean) Bd.returns (by simp) (hb hby at_60) hr
  · show own_Q _ h0 n0 _ T2.heap _
    exact ⟨rfl, N2, e2⟩
theorem own_d1_26 : decode method_3_code 26 = .ok (.iload_n 0, 1) := by decide +kernel
theorem own_d1_27 : decode method_3_code 27 = .ok (.iconst 3, 1) := by decide +kernel
theorem own_d1_28 : decode method_3_code 28 = .ok (.if_icmp .ne 7, 3) := by decide +kernel
theorem own_d1_31 : decode method_3_code 31 = .ok (.getstatic 30, 3) := by decide +kernel
theorem own_d1_34 : decode method_3_code 34 = .ok (.areturn, 1) := by decide +kernel
set_option maxRecDepth 65536 in
set_option maxHeartbeats 40000000 in
theorem own_r1_3 (l : Launch) (Z : State) (a0 : Array Value) (hw : ∀ d ∈ tables_1, d.before a0 Z = true) (ws : List Jvm.Cond)  (c0 c1 c2 c3 c4 c5 c6 c7 c8 c9 c10 c11 c12 c13 : Addr) (h0 : Heap) (n0 : Nat) (Z0 : n0 ≤ h0.size) (K : own_W Z h0 c0 c1 c2 c3 c4 c5 c6 c7 c8 c9 c10 c11 c12 c13)  :
    MetFree l (⟨"com/example/midpoint/midpoint/rounding/ModeIsSymmetricPinLaw", "modeAt", "(I)Lcom/example/midpoint/midpoint/rounding/Mode;"⟩ : MethodName) (head1 (Jvm.Cond.code (⟨"com/example/midpoint/midpoint/rounding/ModeIsSymmetricPinLaw", "modeAt", "(I)Lcom/example/midpoint/midpoint/rounding/Mode;"⟩ : MethodName) method_3_code 1 (some (.object "com/example/midpoint/midpoint/rounding/Mode")) :: ws) ({ frames := 0, cells := 0, slots := 0, locals := 0 } : Room)) (fun a U => a = #[(.int (3 : Int32))] ∧ Z.Warmed39 U.vm ∧ U.heap = h0) (fun _ _ _ _ _ => True) (fun _ U o U' => ∃ v L, o = .returned v ∧ own_Q (.ref c1) h0 n0 v U'.heap L ∧ FrameEnd U o U' L ({ frames := 0, cells := 0, slots := 0, locals := 0 } : Room).cells ({ frames := 0, cells := 0, slots := 0, locals := 0 } : Room).slots) := by
  have K' := K
  obtain ⟨S0, E0, S1, E1, S2, E2, S3, E3, S4, E4, S5, E5, S6, E6, S7, E7, S8, E8, S9, E9, S10, E10, S11, E11, S12, E12, S13, E13, F0, F1, F2, F3, F4⟩ := K'
  refine MetFree.of_bodySF (plainFor_of_name own_pn0) hisR ?_
  intro p e s m args below meth c s₁ Bd hml0 hP hK
  obtain ⟨rfl, hZ, hh⟩ := hP
  have hx := Bd.exec
  have hby := Bd.bytes
  have hml : c.maxLocals = 1 := hml0
  have hown : s.vm.findClass "com/example/midpoint/midpoint/rounding/ModeIsSymmetricPinLaw" = some m.cls := findClass_of_methodNamed Bd.named
  have X0 : Stand p l e ({ frames := 0, cells := 0, slots := 0, locals := 0 } : Room) s m #[(.int (3 : Int32))] below meth c s₁ [] 0 0 := Stand.of_body Bd
  have e0 : s₁.heap = h0 := by rw [← hh, Bd.state]; rfl
  have N0 := Fr.nil n0
  have pre0 : ∀ t, Steps p.tables e below (s₁.setTop (mkF m 0 #[.val (.int (3 : Int32))] [])) t → Steps p.tables e below (s₁.setTop (entryFrame m #[(.int (3 : Int32))] 1)) t := fun t k => castTop (own_ef1 m (3 : Int32)) k
  obtain ⟨T1, X1, e1, st1⟩ := getS2 X0 hx hZ hown (host := "") (Or.inl (hw _ (List.mem_of_getElem? (i := 22) rfl))) Via.refl e0 S1 (g := (mkF m 31 #[.val (.int (3 : Int32))] [])) rfl (hb hby own_d1_31)
  obtain ⟨fs, hr, hrun, hended, hW, hsame⟩ := X1.leave (v := some (.ref c1)) (fun h => by rw [Bd.returns] at h; cases h)
  refine ⟨_, _, pre0 _ ?_, hrun, hended, _, _, rfl, ?_, ⟨_, rfl⟩, hW, hsame.mono (by decide) (by decide)⟩
  · show Steps p.tables e below (s₁.setTop (mkF m 0 #[.val (.int (3 : Int32))] [])) _
    refine XS.iloadN X0.here hx rfl (hb hby own_d1_0) rfl ?_
    show Steps p.tables e below (s₁.setTop (mkF m 1 #[.val (.int (3 : Int32))] [(.int (3 : Int32))])) _
    refine XS.ifYes X0.here hx rfl (pc0 := 1) (pc' := 8) rfl (hb hby own_d1_1) rfl ((if0 _ _).trans (feq (by decide : ¬ ((3 : Int32) = (0 : Int32)))).2) (by decide) (by decide) ?_
    show Steps p.tables e below (s₁.setTop (mkF m 8 #[.val (.int (3 : Int32))] [])) _
    refine XS.iloadN X0.here hx rfl (hb hby own_d1_8) rfl ?_
    show Steps p.tables e below (s₁.setTop (mkF m 9 #[.val (.int (3 : Int32))] [(.int (3 : Int32))])) _
    refine XS.iconst X0.here hx rfl (hb hby own_d1_9) ?_
    show Steps p.tables e below (s₁.setTop (mkF m 10 #[.val (.int (3 : Int32))] [(.int (1 : Int32)), (.int (3 : Int32))])) _
    refine XS.icmpYes X0.here hx rfl (pc0 := 10) (pc' := 17) rfl (hb hby own_d1_10) rfl (feq (by decide : ¬ ((3 : Int32) = (1 : Int32)))).2 (by decide) (by decide) ?_
    show Steps p.tables e below (s₁.setTop (mkF m 17 #[.val (.int (3 : Int32))] [])) _
    refine XS.iloadN X0.here hx rfl (hb hby own_d1_17) rfl ?_
    show Steps p.tables e below (s₁.setTop (mkF m 18 #[.val (.int (3 : Int32))] [(.int (3 : Int32))])) _
    refine XS.iconst X0.here hx rfl (hb hby own_d1_18) ?_
    show Steps p.tables e below (s₁.setTop (mkF m 19 #[.val (.int (3 : Int32))] [(.int (2 : Int32)), (.int (3 : Int32))])) _
    refine XS.icmpYes X0.here hx rfl (pc0 := 19) (pc' := 26) rfl (hb hby own_d1_19) rfl (feq (by decide : ¬ ((3 : Int32) = (2 : Int32)))).2 (by decide) (by decide) ?_
    show Steps p.tables e below (s₁.setTop (mkF m 26 #[.val (.int (3 : Int32))] [])) _
    refine XS.iloadN X0.here hx rfl (hb hby own_d1_26) rfl ?_
    show Steps p.tables e below (s₁.setTop (mkF m 27 #[.val (.int (3 : Int32))] [(.int (3 : Int32))])) _
    refine XS.iconst X0.here hx rfl (hb hby own_d1_27) ?_
    show Steps p.tables e below (s₁.setTop (mkF m 28 #[.val (.int (3 : Int32))] [(.int (3 : Int32)), (.int (3 : Int32))])) _
    refine XS.icmpNo X0.here hx rfl (hb hby own_d1_28) rfl (teq (by decide : (3 : Int32) = (3 : Int32))).2 ?_
    show Steps p.tables e below (s₁.setTop (mkF m 31 #[.val (.int (3 : Int32))] [])) _
    refine st1 _ ?_
    show Steps p.tables e below (T1.setTop (mkF m 34 #[.val (.int (3 : Int32))] [(.ref c1)])) _
    jvm_step X1.here [X1.here.top, hx, (hb hby own_d1_34), X1.method', Bd.returns, Value.isRef, FieldType.isReference]
    first | (intro acts; rw [hr _ acts rfl rfl rfl]) | rw [hr _ _ rfl rfl rfl]
    exact Steps.refl _
  · show own_Q _ h0 n0 _ T1.heap _
    exact ⟨rfl, N0, e1⟩
theorem own_d4_0 : decode prog_23_method_2_code 0 = .ok (.getstatic 7, 3) := by decide +kernel
theorem own_d4_3 : decode prog_23_method_2_code 3 = .ok (.areturn, 1) := by decide +kernel
theorem own_pn5 : plainName "com/example/midpoint/midpoint/rounding/Mode$4" = true := by first | (simp [plainName, overriddenIn]; done) | decide +kernel
theorem own_ef4 (m : MethodId) (x0 : Addr) (x1 : Int32) : entryFrame m #[(.ref x0), (.int x1)] 2 = mkF m 0 #[.val (.ref x0), .val (.int x1)] [] := by first | (simp [entryFrame, mkF, argsToLocals, Value.category]; done) | rfl
set_option maxRecDepth 65536 in
set_option maxHeartbeats 40000000 in
theorem own_r4_0 (l : Launch) (Z : State) (a0 : Array Value) (hw : ∀ d ∈ tables_1, d.before a0 Z = true) (ws : List Jvm.Cond)  (c0 c1 c2 c3 c4 c5 c6 c7 c8 c9 c10 c11 c12 c13 : Addr) (h0 : Heap) (n0 : Nat) (Z0 : n0 ≤ h0.size) (K : own_W Z h0 c0 c1 c2 c3 c4 c5 c6 c7 c8 c9 c10 c11 c12 c13)  :
    MetFree l (⟨"com/example/midpoint/midpoint/rounding/Mode$4", "onMagnitude", "(Z)Ljava/math/RoundingMode;"⟩ : MethodName) (head1 (Jvm.Cond.code (⟨"com/example/midpoint/midpoint/rounding/Mode$4", "onMagnitude", "(Z)Ljava/math/RoundingMode;"⟩ : MethodName) prog_23_method_2_code 2 (some (.object "java/math/RoundingMode")) :: ws) ({ frames := 0, cells := 0, slots := 0, locals := 0 } : Room)) (fun a U => a = #[(.ref c1), (.int (0 : Int32))] ∧ Z.Warmed39 U.vm ∧ U.heap = h0) (fun _ _ _ _ _ => True) (fun _ U o U' => ∃ v L, o = .returned v ∧ own_Q (.ref c10) h0 n0 v U'.heap L ∧ FrameEnd U o U' L ({ frames := 0, cells := 0, slots := 0, locals := 0 } : Room).cells ({ frames := 0, cells := 0, slots := 0, locals := 0 } : Room).slots) := by
  have K' := K
  obtain ⟨S0, E0, S1, E1, S2, E2, S3, E3, S4, E4, S5, E5, S6, E6, S7, E7, S8, E8, S9, E9, S10, E10, S11, E11, S12, E12, S13, E13, F0, F1, F2, F3, F4⟩ := K'
  refine MetFree.of_bodySF (plainFor_of_name own_pn5) hisR ?_
  intro p e s m args below meth c s₁ Bd hml0 hP hK
  obtain ⟨rfl, hZ, hh⟩ := hP
  have hx := Bd.exec
  have hby := Bd.bytes
  have hml : c.maxLocals = 2 := hml0
  have hown : s.vm.findClass "com/example/midpoint/midpoint/rounding/Mode$4" = some m.cls := findClass_of_methodNamed Bd.named
  have X0 : Stand p l e ({ frames := 0, cells := 0, slots := 0, locals := 0 } : Room) s m #[(.ref c1), (.int (0 : Int32))] below meth c s₁ [] 0 0 := Stand.of_body Bd
  have e0 : s₁.heap = h0 := by rw [← hh, Bd.state]; rfl
  have N0 := Fr.nil n0
  have pre0 : ∀ t, Steps p.tables e below (s₁.setTop (mkF m 0 #[.val (.ref c1), .val (.int (0 : Int32))] [])) t → Steps p.tables e below (s₁.setTop (entryFrame m #[(.ref c1), (.int (0 : Int32))] 2)) t := fun t k => castTop (own_ef4 m c1 (0 : Int32)) k
  obtain ⟨T1, X1, e1, st1⟩ := getS2 X0 hx hZ hown (host := "") (Or.inl (hw _ (List.mem_of_getElem? (i := 29) rfl))) Via.refl e0 S10 (g := (mkF m 0 #[.val (.ref c1), .val (.int (0 : Int32))] [])) rfl (hb hby own_d4_0)
  obtain ⟨fs, hr, hrun, hended, hW, hsame⟩ := X1.leave (v := some (.ref c10)) (fun h => by rw [Bd.returns] at h; cases h)
  refine ⟨_, _, pre0 _ ?_, hrun, hended, _, _, rfl, ?_, ⟨_, rfl⟩, hW, hsame.mono (by decide) (by decide)⟩
  · show Steps p.tables e below (s₁.setTop (mkF m 0 #[.val (.ref c1), .val (.int (0 : Int32))] [])) _
    refine st1 _ ?_
    show Steps p.tables e below (T1.setTop (mkF m 3 #[.val (.ref c1), .val (.int (0 : Int32))] [(.ref c10)])) _
    jvm_step X1.here [X1.here.top, hx, (hb hby own_d4_3), X1.method', Bd.returns, Value.isRef, FieldType.isReference]
    first | (intro acts; rw [hr _ acts rfl rfl rfl]) | rw [hr _ _ rfl rfl rfl]
    exact Steps.refl _
  · show own_Q _ h0 n0 _ T1.heap _
    exact ⟨rfl, N0, e1⟩
set_option maxRecDepth 65536 in
set_option maxHeartbeats 40000000 in
theorem own_r4_1 (l : Launch) (Z : State) (a0 : Array Value) (hw : ∀ d ∈ tables_1, d.before a0 Z = true) (ws : List Jvm.Cond)  (c0 c1 c2 c3 c4 c5 c6 c7 c8 c9 c10 c11 c12 c13 : Addr) (h0 : Heap) (n0 : Nat) (Z0 : n0 ≤ h0.size) (K : own_W Z h0 c0 c1 c2 c3 c4 c5 c6 c7 c8 c9 c10 c11 c12 c13)  :
    MetFree l (⟨"com/example/midpoint/midpoint/rounding/Mode$4", "onMagnitude", "(Z)Ljava/math/RoundingMode;"⟩ : MethodName) (head1 (Jvm.Cond.code (⟨"com/example/midpoint/midpoint/rounding/Mode$4", "onMagnitude", "(Z)Ljava/math/RoundingMode;"⟩ : MethodName) prog_23_method_2_code 2 (some (.object "java/math/RoundingMode")) :: ws) ({ frames := 0, cells := 0, slots := 0, locals := 0 } : Room)) (fun a U => a = #[(.ref c1), (.int (1 : Int32))] ∧ Z.Warmed39 U.vm ∧ U.heap = h0) (fun _ _ _ _ _ => True) (fun _ U o U' => ∃ v L, o = .returned v ∧ own_Q (.ref c10) h0 n0 v U'.heap L ∧ FrameEnd U o U' L ({ frames := 0, cells := 0, slots := 0, locals := 0 } : Room).cells ({ frames := 0, cells := 0, slots := 0, locals := 0 } : Room).slots) := by
  have K' := K
  obtain ⟨S0, E0, S1, E1, S2, E2, S3, E3, S4, E4, S5, E5, S6, E6, S7, E7, S8, E8, S9, E9, S10, E10, S11, E11, S12, E12, S13, E13, F0, F1, F2, F3, F4⟩ := K'
  refine MetFree.of_bodySF (plainFor_of_name own_pn5) hisR ?_
  intro p e s m args below meth c s₁ Bd hml0 hP hK
  obtain ⟨rfl, hZ, hh⟩ := hP
  have hx := Bd.exec
  have hby := Bd.bytes
  have hml : c.maxLocals = 2 := hml0
  have hown : s.vm.findClass "com/example/midpoint/midpoint/rounding/Mode$4" = some m.cls := findClass_of_methodNamed Bd.named
  have X0 : Stand p l e ({ frames := 0, cells := 0, slots := 0, locals := 0 } : Room) s m #[(.ref c1), (.int (1 : Int32))] below meth c s₁ [] 0 0 := Stand.of_body Bd
  have e0 : s₁.heap = h0 := by rw [← hh, Bd.state]; rfl
  have N0 := Fr.nil n0
  have pre0 : ∀ t, Steps p.tables e below (s₁.setTop (mkF m 0 #[.val (.ref c1), .val (.int (1 : Int32))] [])) t → Steps p.tables e below (s₁.setTop (entryFrame m #[(.ref c1), (.int (1 : Int32))] 2)) t := fun t k => castTop (own_ef4 m c1 (1 : Int32)) k
  obtain ⟨T1, X1, e1, st1⟩ := getS2 X0 hx hZ hown (host := "") (Or.inl (hw _ (List.mem_of_getElem? (i := 29) rfl))) Via.refl e0 S10 (g := (mkF m 0 #[.val (.ref c1), .val (.int (1 : Int32))] [])) rfl (hb hby own_d4_0)
  obtain ⟨fs, hr, hrun, hended, hW, hsame⟩ := X1.leave (v := some (.ref c10)) (fun h => by rw [Bd.returns] at h; cases h)
  refine ⟨_, _, pre0 _ ?_, hrun, hended, _, _, rfl, ?_, ⟨_, rfl⟩, hW, hsame.mono (by decide) (by decide)⟩
  · show Steps p.tables e below (s₁.setTop (mkF m 0 #[.val (.ref c1), .val (.int (1 : Int32))] [])) _
    refine st1 _ ?_
    show Steps p.tables e below (T1.setTop (mkF m 3 #[.val (.ref c1), .val (.int (1 : Int32))] [(.ref c10)])) _
    jvm_step X1.here [X1.here.top, hx, (hb hby own_d4_3), X1.method', Bd.returns, Value.isRef, FieldType.isReference]
    first | (intro acts; rw [hr _ acts rfl rfl rfl]) | rw [hr _ _ rfl rfl rfl]
    exact Steps.refl _
  · show own_Q _ h0 n0 _ T1.heap _
    exact ⟨rfl, N0, e1⟩
set_option maxRecDepth 65536 in
set_option maxHeartbeats 40000000 in
theorem own_r2_3 (l : Launch) (Z : State) (a0 : Array Value) (hw : ∀ d ∈ tables_1, d.before a0 Z = true) (ws : List Jvm.Cond)  (c0 c1 c2 c3 c4 c5 c6 c7 c8 c9 c10 c11 c12 c13 : Addr) (h0 : Heap) (n0 : Nat) (Z0 : n0 ≤ h0.size) (K : own_W Z h0 c0 c1 c2 c3 c4 c5 c6 c7 c8 c9 c10 c11 c12 c13)  :
    MetFree l (⟨"com/example/midpoint/midpoint/rounding/Mode", "isSymmetric", "()Z"⟩ : MethodName) (head1 (Jvm.Cond.code (⟨"com/example/midpoint/midpoint/rounding/Mode", "isSymmetric", "()Z"⟩ : MethodName) prog_19_method_7_code 1 (some .boolean) :: ws) ({ frames := 1, cells := 0, slots := 0, locals := 14 } : Room)) (fun a U => a = #[(.ref c1)] ∧ Z.Warmed39 U.vm ∧ U.heap = h0) (fun _ _ _ _ _ => True) (fun _ U o U' => ∃ v L, o = .returned v ∧ own_Q (.int (1 : Int32)) h0 n0 v U'.heap L ∧ FrameEnd U o U' L ({ frames := 1, cells := 0, slots := 0, locals := 14 } : Room).cells ({ frames := 1, cells := 0, slots := 0, locals := 14 } : Room).slots) := by
  have K' := K
  obtain ⟨S0, E0, S1, E1, S2, E2, S3, E3, S4, E4, S5, E5, S6, E6, S7, E7, S8, E8, S9, E9, S10, E10, S11, E11, S12, E12, S13, E13, F0, F1, F2, F3, F4⟩ := K'
  refine MetFree.of_bodySF (plainFor_of_name own_pn2) hisR ?_
  intro p e s m args below meth c s₁ Bd hml0 hP hK
  obtain ⟨rfl, hZ, hh⟩ := hP
  have hx := Bd.exec
  have hby := Bd.bytes
  have hml : c.maxLocals = 1 := hml0
  have hown : s.vm.findClass "com/example/midpoint/midpoint/rounding/Mode" = some m.cls := findClass_of_methodNamed Bd.named
  have X0 : Stand p l e ({ frames := 1, cells := 0, slots := 0, locals := 14 } : Room) s m #[(.ref c1)] below meth c s₁ [] 0 0 := Stand.of_body Bd
  have e0 : s₁.heap = h0 := by rw [← hh, Bd.state]; rfl
  have N0 := Fr.nil n0
  have pre0 : ∀ t, Steps p.tables e below (s₁.setTop (mkF m 0 #[.val (.ref c1)] [])) t → Steps p.tables e below (s₁.setTop (entryFrame m #[(.ref c1)] 1)) t := fun t k => castTop (own_ef2 m c1) k
  obtain ⟨cq1, kq1, q1a, q1b, q1c⟩ := isOf hZ e0 E1
  obtain ⟨_, _, ⟨T1, L1, k1, n1⟩, -, X1, ⟨Lc1, hQ1, l1, y1, z1⟩, st1⟩ := X0.virtualBack hx (y := (⟨"com/example/midpoint/midpoint/rounding/Mode", "onMagnitude", "(Z)Ljava/math/RoundingMode;"⟩ : MethodName)) (z := (⟨"com/example/midpoint/midpoint/rounding/Mode$4", "onMagnitude", "(Z)Ljava/math/RoundingMode;"⟩ : MethodName)) hown (mvT hZ (hw _ (List.mem_of_getElem? (i := 13) rfl))) (mvT hZ (hw _ (List.mem_of_getElem? (i := 14) rfl))) (own_nf (args := #[]) (D := "com/example/midpoint/midpoint/rounding/Mode$1") (n := "isSymmetric") (d := "()Z") (mvT hZ (hw _ (List.mem_of_getElem? (i := 11) rfl))) (mvT hZ (hw _ (List.mem_of_getElem? (i := 9) rfl)))) (mvT hZ (hw _ (List.mem_of_getElem? (i := 25) rfl))) (mvT hZ (hw _ (List.mem_of_getElem? (i := 26) rfl))) (by decide) (backOf (W := 0) (own_r4_0 l Z a0 hw [] c0 c1 c2 c3 c4 c5 c6 c7 c8 c9 c10 c11 c12 c13 h0 n0 Z0 K) hZ (hw _ (List.mem_of_getElem? (i := 28) rfl)) (hw _ (List.mem_of_getElem? (i := 27) rfl)) (by decide) (by decide)) q1a q1c (g := (mkF m 2 #[.val (.ref c1)] [(.int (0 : Int32)), (.ref c1)])) rfl (by rw [hml]; rfl) (Steps.refl _) (argsL := [(.int (0 : Int32))]) (rest := []) (lenOf own_pd1 rfl) rfl (by show 2 * 0 + _ ≤ _; exact Nat.le_of_eq rfl) (hb hby own_d2_2) (fun _ _ => ⟨rfl, e0, (by decide : 0 + 0 ≤ _), (by decide : 0 + 0 ≤ _)⟩)
  dsimp only [Pt.U, Pt.locs, Pt.cells, Pt.slots] at X1 l1 y1 z1 st1 hQ1
  subst l1 y1 z1
  obtain ⟨rfl, N1q, e1⟩ := hQ1
  have N1 := Fr.app N0 N1q
  obtain ⟨cq2, kq2, q2a, q2b, q2c⟩ := isOf hZ e1 E1
  obtain ⟨_, _, ⟨T2, L2, k2, n2⟩, -, X2, ⟨Lc2, hQ2, l2, y2, z2⟩, st2⟩ := X1.virtualBack hx (y := (⟨"com/example/midpoint/midpoint/rounding/Mode", "onMagnitude", "(Z)Ljava/math/RoundingMode;"⟩ : MethodName)) (z := (⟨"com/example/midpoint/midpoint/rounding/Mode$4", "onMagnitude", "(Z)Ljava/math/RoundingMode;"⟩ : MethodName)) hown (mvT hZ (hw _ (List.mem_of_getElem? (i := 13) rfl))) (mvT hZ (hw _ (List.mem_of_getElem? (i := 14) rfl))) (own_nf (args := #[]) (D := "com/example/midpoint/midpoint/rounding/Mode$1") (n := "isSymmetric") (d := "()Z") (mvT hZ (hw _ (List.mem_of_getElem? (i := 11) rfl))) (mvT hZ (hw _ (List.mem_of_getElem? (i := 9) rfl)))) (mvT hZ (hw _ (List.mem_of_getElem? (i := 25) rfl))) (mvT hZ (hw _ (List.mem_of_getElem? (i := 26) rfl))) (by decide) (backOf (W := 1) (own_r4_1 l Z a0 hw [] c0 c1 c2 c3 c4 c5 c6 c7 c8 c9 c10 c11 c12 c13 h0 n0 Z0 K) hZ (hw _ (List.mem_of_getElem? (i := 28) rfl)) (hw _ (List.mem_of_getElem? (i := 27) rfl)) (by decide) (by decide)) q2a q2c (g := (mkF m 7 #[.val (.ref c1)] [(.int (1 : Int32)), (.ref c1), (.ref c10)])) rfl (by rw [hml]; rfl) (Steps.refl _) (argsL := [(.int (1 : Int32))]) (rest := [(.ref c10)]) (lenOf own_pd1 rfl) rfl (by show 2 * 0 + _ ≤ _; exact Nat.le_of_eq rfl) (hb hby own_d2_7) (fun _ _ => ⟨rfl, e1, (by decide : 0 + 0 ≤ _), (by decide : 0 + 0 ≤ _)⟩)
  dsimp only [Pt.U, Pt.locs, Pt.cells, Pt.slots] at X2 l2 y2 z2 st2 hQ2
  subst l2 y2 z2
  obtain ⟨rfl, N2q, e2⟩ := hQ2
  have N2 := Fr.app N1 N2q
  obtain ⟨fs, hr, hrun, hended, hW, hsame⟩ := X2.leave (v := some (.int (1 : Int32))) (fun h => by rw [Bd.returns] at h; cases h)
  refine ⟨_, _, pre0 _ ?_, hrun, hended, _, _, rfl, ?_, ⟨_, rfl⟩, hW, hsame.mono (by decide) (by decide)⟩
  · show Steps p.tables e below (s₁.setTop (mkF m 0 #[.val (.ref c1)] [])) _
    refine XS.aloadN X0.here hx rfl (hb hby own_d2_0) rfl rfl ?_
    show Steps p.tables e below (s₁.setTop (mkF m 1 #[.val (.ref c1)] [(.ref c1)])) _
    refine XS.iconst X0.here hx rfl (hb hby own_d2_1) ?_
    show Steps p.tables e below (s₁.setTop (mkF m 2 #[.val (.ref c1)] [(.int (0 : Int32)), (.ref c1)])) _
    refine st1.trans ?_
    show Steps p.tables e below (T1.setTop (mkF m 5 #[.val (.ref c1)] [(.ref c10)])) _
    refine XS.aloadN X1.here hx rfl (hb hby own_d2_5) rfl rfl ?_
    show Steps p.tables e below (T1.setTop (mkF m 6 #[.val (.ref c1)] [(.ref c1), (.ref c10)])) _
    refine XS.iconst X1.here hx rfl (hb hby own_d2_6) ?_
    show Steps p.tables e below (T1.setTop (mkF m 7 #[.val (.ref c1)] [(.int (1 : Int32)), (.ref c1), (.ref c10)])) _
    refine st2.trans ?_
    show Steps p.tables e below (T2.setTop (mkF m 10 #[.val (.ref c1)] [(.ref c10), (.ref c10)])) _
    refine Jvm.RoadKit.acmp (g := (mkF m 10 #[.val (.ref c1)] [(.ref c10), (.ref c10)])) X2 hx rfl rfl rfl (pc0 := 10) (pc' := 13) (same := true) rfl (hb hby own_d2_10) rfl (decide_eq_true rfl) (by decide) (by decide) ?_
    show Steps p.tables e below (T2.setTop (mkF m 13 #[.val (.ref c1)] [])) _
    refine XS.iconst X2.here hx rfl (hb hby own_d2_13) ?_
    show Steps p.tables e below (T2.setTop (mkF m 14 #[.val (.ref c1)] [(.int (1 : Int32))])) _
    refine XS.goto X2.here hx rfl (pc0 := 14) (pc' := 18) rfl (hb hby own_d2_14) (by decide) (by decide) ?_
    show Steps p.tables e below (T2.setTop (mkF m 18 #[.val (.ref c1)] [(.int (1 : Int32))])) _
    exact retN X2 hx (t := .boolean) Bd.returns (by simp) (hb hby own_d2_18) hr
  · show own_Q _ h0 n0 _ T2.heap _
    exact ⟨rfl, N2, e2⟩
set_option maxRecDepth 65536 in
set_option maxHeartbeats 40000000 in
theorem own_r0_3 (l : Launch) (Z : State) (a0 : Array Value) (hw : ∀ d ∈ tables_1, d.before a0 Z = true) (ws : List Jvm.Cond) (p0 : Int32) (c0 c1 c2 c3 c4 c5 c6 c7 c8 c9 c10 c11 c12 c13 : Addr) (h0 : Heap) (n0 : Nat) (Z0 : n0 ≤ h0.size) (K : own_W Z h0 c0 c1 c2 c3 c4 c5 c6 c7 c8 c9 c10 c11 c12 c13) (hk0 : ((p0 &&& (2147483647 : Int32)) % (9 : Int32)) = (3 : Int32)) :
    MetFree l x (head1 (Jvm.Cond.code x code maxLocals ret :: ws) room_1) (fun a U => a = #[(.int p0)] ∧ Z.Warmed39 U.vm ∧ U.heap = h0) (fun _ _ _ _ _ => True) (fun _ U o U' => ∃ v L, o = .returned v ∧ own_Q (.int (1 : Int32)) h0 n0 v U'.heap L ∧ FrameEnd U o U' L room_1.cells room_1.slots) := by
  have K' := K
  obtain ⟨S0, E0, S1, E1, S2, E2, S3, E3, S4, E4, S5, E5, S6, E6, S7, E7, S8, E8, S9, E9, S10, E10, S11, E11, S12, E12, S13, E13, F0, F1, F2, F3, F4⟩ := K'
  refine MetFree.of_bodySF (plainFor_of_name own_pn0) hisR ?_
  intro p e s m args below meth c s₁ Bd hml0 hP hK
  obtain ⟨rfl, hZ, hh⟩ := hP
  have hx := Bd.exec
  have hby := Bd.bytes
  have hml : c.maxLocals = 4 := hml0
  have hown : s.vm.findClass "com/example/midpoint/midpoint/rounding/ModeIsSymmetricPinLaw" = some m.cls := findClass_of_methodNamed Bd.named
  have X0 : Stand p l e room_1 s m #[(.int p0)] below meth c s₁ [] 0 0 := Stand.of_body Bd
  have e0 : s₁.heap = h0 := by rw [← hh, Bd.state]; rfl
  have N0 := Fr.nil n0
  have pre0 : ∀ t, Steps p.tables e below (s₁.setTop (mkF m 0 #[.val (.int p0), .unset, .unset, .unset] [])) t → Steps p.tables e below (s₁.setTop (entryFrame m #[(.int p0)] maxLocals)) t := fun t k => castTop (own_ef0 m p0) k
  obtain ⟨_, _, ⟨T1, L1, k1, n1⟩, -, X1, ⟨Lc1, hQ1, l1, y1, z1⟩, st1⟩ := Jvm.LawKit.callS X0 hx (y := (⟨"com/example/midpoint/midpoint/rounding/ModeIsSymmetricPinLaw", "modeAt", "(I)Lcom/example/midpoint/midpoint/rounding/Mode;"⟩ : MethodName)) hown (mvT hZ (hw _ (List.mem_of_getElem? (i := 1) rfl))) (mvT hZ (hw _ (List.mem_of_getElem? (i := 2) rfl))) (mvT hZ (hw _ (List.mem_of_getElem? (i := 3) rfl))) (mvT hZ (hw _ (List.mem_of_getElem? (i := 4) rfl))) (by decide) (backOf (W := 0) (own_r1_3 l Z a0 hw [] c0 c1 c2 c3 c4 c5 c6 c7 c8 c9 c10 c11 c12 c13 h0 n0 Z0 K) hZ (hw _ (List.mem_of_getElem? (i := 4) rfl)) (hw _ (List.mem_of_getElem? (i := 3) rfl)) (by decide) (by decide)) (g := (mkF m 9 #[.val (.int p0), .val (.int (3 : Int32)), .unset, .unset] [(.int (3 : Int32))])) rfl (by rw [hml]; rfl) (argsL := [(.int (3 : Int32))]) (rest := []) (lenOf own_pd0 rfl) rfl (by show 2 * 0 + _ ≤ _; exact Nat.le_of_eq rfl) (hb hby at_9) (fun _ _ => ⟨rfl, e0, (by decide : 0 + 0 ≤ _), (by decide : 0 + 0 ≤ _)⟩)
  dsimp only [Pt.U, Pt.locs, Pt.cells, Pt.slots] at X1 l1 y1 z1 st1 hQ1
  subst l1 y1 z1
  obtain ⟨rfl, N1q, e1⟩ := hQ1
  have N1 := Fr.app N0 N1q
  obtain ⟨cq2, kq2, q2a, q2b, q2c⟩ := isOf hZ e1 E1
  obtain ⟨_, _, ⟨T2, L2, k2, n2⟩, -, X2, ⟨Lc2, hQ2, l2, y2, z2⟩, st2⟩ := X1.virtualBack hx (y := (⟨"com/example/midpoint/midpoint/rounding/Mode", "isSymmetric", "()Z"⟩ : MethodName)) (z := (⟨"com/example/midpoint/midpoint/rounding/Mode", "isSymmetric", "()Z"⟩ : MethodName)) hown (mvT hZ (hw _ (List.mem_of_getElem? (i := 8) rfl))) (mvT hZ (hw _ (List.mem_of_getElem? (i := 9) rfl))) (notFace_of_selects (args := #[]) (mvT hZ (hw _ (List.mem_of_getElem? (i := 24) rfl)))) (mvT hZ (hw _ (List.mem_of_getElem? (i := 24) rfl))) (mvT hZ (hw _ (List.mem_of_getElem? (i := 10) rfl))) (by decide) (backOf (W := 0) (own_r2_3 l Z a0 hw [] c0 c1 c2 c3 c4 c5 c6 c7 c8 c9 c10 c11 c12 c13 h0 n0 Z0 K) hZ (hw _ (List.mem_of_getElem? (i := 12) rfl)) (hw _ (List.mem_of_getElem? (i := 6) rfl)) (by decide) (by decide)) q2a q2c (g := (mkF m 48 #[.val (.int p0), .val (.int (3 : Int32)), .val (.ref c1), .val (.int (1 : Int32))] [(.ref c1)])) rfl (by rw [hml]; rfl) (Steps.refl _) (argsL := []) (rest := []) (lenOf own_pd2 rfl) rfl (by show 2 * 0 + _ ≤ _; exact Nat.le_of_eq rfl) (hb hby at_48) (fun _ _ => ⟨rfl, e1, (by decide : 0 + 0 ≤ _), (by decide : 0 + 0 ≤ _)⟩)
  dsimp only [Pt.U, Pt.locs, Pt.cells, Pt.slots] at X2 l2 y2 z2 st2 hQ2
  subst l2 y2 z2
  obtain ⟨rfl, N2q, e2⟩ := hQ2
  have N2 := Fr.app N1 N2q
  obtain ⟨fs, hr, hrun, hended, hW, hsame⟩ := X2.leave (v := some (.int (1 : Int32))) (fun h => by rw [Bd.returns] at h; cases h)
  refine ⟨_, _, pre0 _ ?_, hrun, hended, _, _, rfl, ?_, ⟨_, rfl⟩, hW, hsame.mono (by decide) (by decide)⟩
  · show Steps p.tables e below (s₁.setTop (mkF m 0 #[.val (.int p0), .unset, .unset, .unset] [])) _
    refine XS.iloadN X0.here hx rfl (hb hby at_0) rfl ?_
    show Steps p.tables e below (s₁.setTop (mkF m 1 #[.val (.int p0), .unset, .unset, .unset] [(.int p0)])) _
    refine X0.ldcInt hx hown (mvT hZ (hw _ (List.mem_of_getElem? (i := 0) rfl))) (g := (mkF m 1 #[.val (.int p0), .unset, .unset, .unset] [(.int p0)])) rfl (hb hby at_1) _ ?_
    show Steps p.tables e below (s₁.setTop (mkF m 3 #[.val (.int p0), .unset, .unset, .unset] [(.int (2147483647 : Int32)), (.int p0)])) _
    refine XS.iand X0.here hx rfl (hb hby at_3) rfl ?_
    show Steps p.tables e below (s₁.setTop (mkF m 4 #[.val (.int p0), .unset, .unset, .unset] [(.int (p0 &&& (2147483647 : Int32)))])) _
    refine XS.bipush X0.here hx rfl (hb hby at_4) ?_
    show Steps p.tables e below (s₁.setTop (mkF m 6 #[.val (.int p0), .unset, .unset, .unset] [(.int (9 : Int32)), (.int (p0 &&& (2147483647 : Int32)))])) _
    refine iremM X0 hx rfl (hb hby at_6) rfl (by decide) ?_
    show Steps p.tables e below (s₁.setTop (mkF m 7 #[.val (.int p0), .unset, .unset, .unset] [(.int ((p0 &&& (2147483647 : Int32)) % (9 : Int32)))])) _
    rw [hk0]
    show Steps p.tables e below (s₁.setTop (mkF m 7 #[.val (.int p0), .unset, .unset, .unset] [(.int (3 : Int32))])) _
    refine XS.istoreN X0.here hx rfl (hb hby at_7) rfl (l' := #[.val (.int p0), .val (.int (3 : Int32)), .unset, .unset]) rfl ?_
    show Steps p.tables e below (s₁.setTop (mkF m 8 #[.val (.int p0), .val (.int (3 : Int32)), .unset, .unset] [])) _
    refine XS.iloadN X0.here hx rfl (hb hby at_8) rfl ?_
    show Steps p.tables e below (s₁.setTop (mkF m 9 #[.val (.int p0), .val (.int (3 : Int32)), .unset, .unset] [(.int (3 : Int32))])) _
    refine st1 _ ?_
    show Steps p.tables e below (T1.setTop (mkF m 12 #[.val (.int p0), .val (.int (3 : Int32)), .unset, .unset] [(.ref c1)])) _
    refine XS.astoreN X1.here hx rfl (hb hby at_12) rfl rfl (l' := #[.val (.int p0), .val (.int (3 : Int32)), .val (.ref c1), .unset]) rfl ?_
    show Steps p.tables e below (T1.setTop (mkF m 13 #[.val (.int p0), .val (.int (3 : Int32)), .val (.ref c1), .unset] [])) _
    refine XS.iloadN X1.here hx rfl (hb hby at_13) rfl ?_
    show Steps p.tables e below (T1.setTop (mkF m 14 #[.val (.int p0), .val (.int (3 : Int32)), .val (.ref c1), .unset] [(.int (3 : Int32))])) _
    refine XS.iconst X1.here hx rfl (hb hby at_14) ?_
    show Steps p.tables e below (T1.setTop (mkF m 15 #[.val (.int p0), .val (.int (3 : Int32)), .val (.ref c1), .unset] [(.int (2 : Int32)), (.int (3 : Int32))])) _
    refine XS.icmpNo X1.here hx rfl (hb hby at_15) rfl (feq (by decide : ¬ ((3 : Int32) = (2 : Int32)))).1 ?_
    show Steps p.tables e below (T1.setTop (mkF m 18 #[.val (.int p0), .val (.int (3 : Int32)), .val (.ref c1), .unset] [])) _
    refine XS.iloadN X1.here hx rfl (hb hby at_18) rfl ?_
    show Steps p.tables e below (T1.setTop (mkF m 19 #[.val (.int p0), .val (.int (3 : Int32)), .val (.ref c1), .unset] [(.int (3 : Int32))])) _
    refine XS.iconst X1.here hx rfl (hb hby at_19) ?_
    show Steps p.tables e below (T1.setTop (mkF m 20 #[.val (.int p0), .val (.int (3 : Int32)), .val (.ref c1), .unset] [(.int (3 : Int32)), (.int (3 : Int32))])) _
    refine XS.icmpYes X1.here hx rfl (pc0 := 20) (pc' := 41) rfl (hb hby at_20) rfl (teq (by decide : (3 : Int32) = (3 : Int32))).1 (by decide) (by decide) ?_
    show Steps p.tables e below (T1.setTop (mkF m 41 #[.val (.int p0), .val (.int (3 : Int32)), .val (.ref c1), .unset] [])) _
    refine XS.iconst X1.here hx rfl (hb hby at_41) ?_
    show Steps p.tables e below (T1.setTop (mkF m 42 #[.val (.int p0), .val (.int (3 : Int32)), .val (.ref c1), .unset] [(.int (1 : Int32))])) _
    refine XS.goto X1.here hx rfl (pc0 := 42) (pc' := 46) rfl (hb hby at_42) (by decide) (by decide) ?_
    show Steps p.tables e below (T1.setTop (mkF m 46 #[.val (.int p0), .val (.int (3 : Int32)), .val (.ref c1), .unset] [(.int (1 : Int32))])) _
    refine XS.istoreN X1.here hx rfl (hb hby at_46) rfl (l' := #[.val (.int p0), .val (.int (3 : Int32)), .val (.ref c1), .val (.int (1 : Int32))]) rfl ?_
    show Steps p.tables e below (T1.setTop (mkF m 47 #[.val (.int p0), .val (.int (3 : Int32)), .val (.ref c1), .val (.int (1 : Int32))] [])) _
    refine XS.aloadN X1.here hx rfl (hb hby at_47) rfl rfl ?_
    show Steps p.tables e below (T1.setTop (mkF m 48 #[.val (.int p0), .val (.int (3 : Int32)), .val (.ref c1), .val (.int (1 : Int32))] [(.ref c1)])) _
    refine st2.trans ?_
    show Steps p.tables e below (T2.setTop (mkF m 51 #[.val (.int p0), .val (.int (3 : Int32)), .val (.ref c1), .val (.int (1 : Int32))] [(.int (1 : Int32))])) _
    refine XS.iloadN X2.here hx rfl (hb hby at_51) rfl ?_
    show Steps p.tables e below (T2.setTop (mkF m 52 #[.val (.int p0), .val (.int (3 : Int32)), .val (.ref c1), .val (.int (1 : Int32))] [(.int (1 : Int32)), (.int (1 : Int32))])) _
    refine XS.icmpNo X2.here hx rfl (hb hby at_52) rfl (teq (by decide : (1 : Int32) = (1 : Int32))).2 ?_
    show Steps p.tables e below (T2.setTop (mkF m 55 #[.val (.int p0), .val (.int (3 : Int32)), .val (.ref c1), .val (.int (1 : Int32))] [])) _
    refine XS.iconst X2.here hx rfl (hb hby at_55) ?_
    show Steps p.tables e below (T2.setTop (mkF m 56 #[.val (.int p0), .val (.int (3 : Int32)), .val (.ref c1), .val (.int (1 : Int32))] [(.int (1 : Int32))])) _
    refine XS.goto X2.here hx rfl (pc0 := 56) (pc' := 60) rfl (hb hby at_56) (by decide) (by decide) ?_
    show Steps p.tables e below (T2.setTop (mkF m 60 #[.val (.int p0), .val (.int (3 : Int32)), .val (.ref c1), .val (.int (1 : Int32))] [(.int (1 : Int32))])) _
    exact retN X2 hx (t := .boolean) Bd.returns (by simp) (hb hby at_60) hr
  · show own_Q _ h0 n0 _ T2.heap _
    exact ⟨rfl, N2, e2⟩
theorem own_d1_35 : decode method_3_code 35 = .ok (.iload_n 0, 1) := by decide +kernel
theorem own_d1_36 : decode method_3_code 36 = .ok (.iconst 4, 1) := by decide +kernel
theorem own_d1_37 : decode method_3_code 37 = .ok (.if_icmp .ne 7, 3) := by decide +kernel
theorem own_d1_40 : decode method_3_code 40 = .ok (.getstatic 33, 3) := by decide +kernel
theorem own_d1_43 : decode method_3_code 43 = .ok (.areturn, 1) := by decide +kernel
set_option maxRecDepth 65536 in
set_option maxHeartbeats 40000000 in
theorem own_r1_4 (l : Launch) (Z : State) (a0 : Array Value) (hw : ∀ d ∈ tables_1, d.before a0 Z = true) (ws : List Jvm.Cond)  (c0 c1 c2 c3 c4 c5 c6 c7 c8 c9 c10 c11 c12 c13 : Addr) (h0 : Heap) (n0 : Nat) (Z0 : n0 ≤ h0.size) (K : own_W Z h0 c0 c1 c2 c3 c4 c5 c6 c7 c8 c9 c10 c11 c12 c13)  :
    MetFree l (⟨"com/example/midpoint/midpoint/rounding/ModeIsSymmetricPinLaw", "modeAt", "(I)Lcom/example/midpoint/midpoint/rounding/Mode;"⟩ : MethodName) (head1 (Jvm.Cond.code (⟨"com/example/midpoint/midpoint/rounding/ModeIsSymmetricPinLaw", "modeAt", "(I)Lcom/example/midpoint/midpoint/rounding/Mode;"⟩ : MethodName) method_3_code 1 (some (.object "com/example/midpoint/midpoint/rounding/Mode")) :: ws) ({ frames := 0, cells := 0, slots := 0, locals := 0 } : Room)) (fun a U => a = #[(.int (4 : Int32))] ∧ Z.Warmed39 U.vm ∧ U.heap = h0) (fun _ _ _ _ _ => True) (fun _ U o U' => ∃ v L, o = .returned v ∧ own_Q (.ref c5) h0 n0 v U'.heap L ∧ FrameEnd U o U' L ({ frames := 0, cells := 0, slots := 0, locals := 0 } : Room).cells ({ frames := 0, cells := 0, slots := 0, locals := 0 } : Room).slots) := by
  have K' := K
  obtain ⟨S0, E0, S1, E1, S2, E2, S3, E3, S4, E4, S5, E5, S6, E6, S7, E7, S8, E8, S9, E9, S10, E10, S11, E11, S12, E12, S13, E13, F0, F1, F2, F3, F4⟩ := K'
  refine MetFree.of_bodySF (plainFor_of_name own_pn0) hisR ?_
  intro p e s m args below meth c s₁ Bd hml0 hP hK
  obtain ⟨rfl, hZ, hh⟩ := hP
  have hx := Bd.exec
  have hby := Bd.bytes
  have hml : c.maxLocals = 1 := hml0
  have hown : s.vm.findClass "com/example/midpoint/midpoint/rounding/ModeIsSymmetricPinLaw" = some m.cls := findClass_of_methodNamed Bd.named
  have X0 : Stand p l e ({ frames := 0, cells := 0, slots := 0, locals := 0 } : Room) s m #[(.int (4 : Int32))] below meth c s₁ [] 0 0 := Stand.of_body Bd
  have e0 : s₁.heap = h0 := by rw [← hh, Bd.state]; rfl
  have N0 := Fr.nil n0
  have pre0 : ∀ t, Steps p.tables e below (s₁.setTop (mkF m 0 #[.val (.int (4 : Int32))] [])) t → Steps p.tables e below (s₁.setTop (entryFrame m #[(.int (4 : Int32))] 1)) t := fun t k => castTop (own_ef1 m (4 : Int32)) k
  obtain ⟨T1, X1, e1, st1⟩ := getS2 X0 hx hZ hown (host := "") (Or.inl (hw _ (List.mem_of_getElem? (i := 55) rfl))) Via.refl e0 S5 (g := (mkF m 40 #[.val (.int (4 : Int32))] [])) rfl (hb hby own_d1_40)
  obtain ⟨fs, hr, hrun, hended, hW, hsame⟩ := X1.leave (v := some (.ref c5)) (fun h => by rw [Bd.returns] at h; cases h)
  refine ⟨_, _, pre0 _ ?_, hrun, hended, _, _, rfl, ?_, ⟨_, rfl⟩, hW, hsame.mono (by decide) (by decide)⟩
  · show Steps p.tables e below (s₁.setTop (mkF m 0 #[.val (.int (4 : Int32))] [])) _
    refine XS.iloadN X0.here hx rfl (hb hby own_d1_0) rfl ?_
    show Steps p.tables e below (s₁.setTop (mkF m 1 #[.val (.int (4 : Int32))] [(.int (4 : Int32))])) _
    refine XS.ifYes X0.here hx rfl (pc0 := 1) (pc' := 8) rfl (hb hby own_d1_1) rfl ((if0 _ _).trans (feq (by decide : ¬ ((4 : Int32) = (0 : Int32)))).2) (by decide) (by decide) ?_
    show Steps p.tables e below (s₁.setTop (mkF m 8 #[.val (.int (4 : Int32))] [])) _
    refine XS.iloadN X0.here hx rfl (hb hby own_d1_8) rfl ?_
    show Steps p.tables e below (s₁.setTop (mkF m 9 #[.val (.int (4 : Int32))] [(.int (4 : Int32))])) _
    refine XS.iconst X0.here hx rfl (hb hby own_d1_9) ?_
    show Steps p.tables e below (s₁.setTop (mkF m 10 #[.val (.int (4 : Int32))] [(.int (1 : Int32)), (.int (4 : Int32))])) _
    refine XS.icmpYes X0.here hx rfl (pc0 := 10) (pc' := 17) rfl (hb hby own_d1_10) rfl (feq (by decide : ¬ ((4 : Int32) = (1 : Int32)))).2 (by decide) (by decide) ?_
    show Steps p.tables e below (s₁.setTop (mkF m 17 #[.val (.int (4 : Int32))] [])) _
    refine XS.iloadN X0.here hx rfl (hb hby own_d1_17) rfl ?_
    show Steps p.tables e below (s₁.setTop (mkF m 18 #[.val (.int (4 : Int32))] [(.int (4 : Int32))])) _
    refine XS.iconst X0.here hx rfl (hb hby own_d1_18) ?_
    show Steps p.tables e below (s₁.setTop (mkF m 19 #[.val (.int (4 : Int32))] [(.int (2 : Int32)), (.int (4 : Int32))])) _
    refine XS.icmpYes X0.here hx rfl (pc0 := 19) (pc' := 26) rfl (hb hby own_d1_19) rfl (feq (by decide : ¬ ((4 : Int32) = (2 : Int32)))).2 (by decide) (by decide) ?_
    show Steps p.tables e below (s₁.setTop (mkF m 26 #[.val (.int (4 : Int32))] [])) _
    refine XS.iloadN X0.here hx rfl (hb hby own_d1_26) rfl ?_
    show Steps p.tables e below (s₁.setTop (mkF m 27 #[.val (.int (4 : Int32))] [(.int (4 : Int32))])) _
    refine XS.iconst X0.here hx rfl (hb hby own_d1_27) ?_
    show Steps p.tables e below (s₁.setTop (mkF m 28 #[.val (.int (4 : Int32))] [(.int (3 : Int32)), (.int (4 : Int32))])) _
    refine XS.icmpYes X0.here hx rfl (pc0 := 28) (pc' := 35) rfl (hb hby own_d1_28) rfl (feq (by decide : ¬ ((4 : Int32) = (3 : Int32)))).2 (by decide) (by decide) ?_
    show Steps p.tables e below (s₁.setTop (mkF m 35 #[.val (.int (4 : Int32))] [])) _
    refine XS.iloadN X0.here hx rfl (hb hby own_d1_35) rfl ?_
    show Steps p.tables e below (s₁.setTop (mkF m 36 #[.val (.int (4 : Int32))] [(.int (4 : Int32))])) _
    refine XS.iconst X0.here hx rfl (hb hby own_d1_36) ?_
    show Steps p.tables e below (s₁.setTop (mkF m 37 #[.val (.int (4 : Int32))] [(.int (4 : Int32)), (.int (4 : Int32))])) _
    refine XS.icmpNo X0.here hx rfl (hb hby own_d1_37) rfl (teq (by decide : (4 : Int32) = (4 : Int32))).2 ?_
    show Steps p.tables e below (s₁.setTop (mkF m 40 #[.val (.int (4 : Int32))] [])) _
    refine st1 _ ?_
    show Steps p.tables e below (T1.setTop (mkF m 43 #[.val (.int (4 : Int32))] [(.ref c5)])) _
    jvm_step X1.here [X1.here.top, hx, (hb hby own_d1_43), X1.method', Bd.returns, Value.isRef, FieldType.isReference]
    first | (intro acts; rw [hr _ acts rfl rfl rfl]) | rw [hr _ _ rfl rfl rfl]
    exact Steps.refl _
  · show own_Q _ h0 n0 _ T1.heap _
    exact ⟨rfl, N0, e1⟩
theorem own_d8_0 : decode prog_24_method_2_code 0 = .ok (.iload_n 1, 1) := by decide +kernel
theorem own_d8_1 : decode prog_24_method_2_code 1 = .ok (.ifCond .eq 9, 3) := by decide +kernel
theorem own_d8_10 : decode prog_24_method_2_code 10 = .ok (.getstatic 13, 3) := by decide +kernel
theorem own_d8_13 : decode prog_24_method_2_code 13 = .ok (.areturn, 1) := by decide +kernel
theorem own_pn6 : plainName "com/example/midpoint/midpoint/rounding/Mode$5" = true := by first | (simp [plainName, overriddenIn]; done) | decide +kernel
theorem own_ef8 (m : MethodId) (x0 : Addr) (x1 : Int32) : entryFrame m #[(.ref x0), (.int x1)] 2 = mkF m 0 #[.val (.ref x0), .val (.int x1)] [] := by first | (simp [entryFrame, mkF, argsToLocals, Value.category]; done) | rfl
set_option maxRecDepth 65536 in
set_option maxHeartbeats 40000000 in
theorem own_r8_0 (l : Launch) (Z : State) (a0 : Array Value) (hw : ∀ d ∈ tables_1, d.before a0 Z = true) (ws : List Jvm.Cond)  (c0 c1 c2 c3 c4 c5 c6 c7 c8 c9 c10 c11 c12 c13 : Addr) (h0 : Heap) (n0 : Nat) (Z0 : n0 ≤ h0.size) (K : own_W Z h0 c0 c1 c2 c3 c4 c5 c6 c7 c8 c9 c10 c11 c12 c13)  :
    MetFree l (⟨"com/example/midpoint/midpoint/rounding/Mode$5", "onMagnitude", "(Z)Ljava/math/RoundingMode;"⟩ : MethodName) (head1 (Jvm.Cond.code (⟨"com/example/midpoint/midpoint/rounding/Mode$5", "onMagnitude", "(Z)Ljava/math/RoundingMode;"⟩ : MethodName) prog_24_method_2_code 2 (some (.object "java/math/RoundingMode")) :: ws) ({ frames := 0, cells := 0, slots := 0, locals := 0 } : Room)) (fun a U => a = #[(.ref c5), (.int (0 : Int32))] ∧ Z.Warmed39 U.vm ∧ U.heap = h0) (fun _ _ _ _ _ => True) (fun _ U o U' => ∃ v L, o = .returned v ∧ own_Q (.ref c12) h0 n0 v U'.heap L ∧ FrameEnd U o U' L ({ frames := 0, cells := 0, slots := 0, locals := 0 } : Room).cells ({ frames := 0, cells := 0, slots := 0, locals := 0 } : Room).slots) := by
  have K' := K
  obtain ⟨S0, E0, S1, E1, S2, E2, S3, E3, S4, E4, S5, E5, S6, E6, S7, E7, S8, E8, S9, E9, S10, E10, S11, E11, S12, E12, S13, E13, F0, F1, F2, F3, F4⟩ := K'
  refine MetFree.of_bodySF (plainFor_of_name own_pn6) hisR ?_
  intro p e s m args below meth c s₁ Bd hml0 hP hK
  obtain ⟨rfl, hZ, hh⟩ := hP
  have hx := Bd.exec
  have hby := Bd.bytes
  have hml : c.maxLocals = 2 := hml0
  have hown : s.vm.findClass "com/example/midpoint/midpoint/rounding/Mode$5" = some m.cls := findClass_of_methodNamed Bd.named
  have X0 : Stand p l e ({ frames := 0, cells := 0, slots := 0, locals := 0 } : Room) s m #[(.ref c5), (.int (0 : Int32))] below meth c s₁ [] 0 0 := Stand.of_body Bd
  have e0 : s₁.heap = h0 := by rw [← hh, Bd.state]; rfl
  have N0 := Fr.nil n0
  have pre0 : ∀ t, Steps p.tables e below (s₁.setTop (mkF m 0 #[.val (.ref c5), .val (.int (0 : Int32))] [])) t → Steps p.tables e below (s₁.setTop (entryFrame m #[(.ref c5), (.int (0 : Int32))] 2)) t := fun t k => castTop (own_ef8 m c5 (0 : Int32)) k
  obtain ⟨T1, X1, e1, st1⟩ := getS2 X0 hx hZ hown (host := "") (Or.inl (hw _ (List.mem_of_getElem? (i := 62) rfl))) Via.refl e0 S12 (g := (mkF m 10 #[.val (.ref c5), .val (.int (0 : Int32))] [])) rfl (hb hby own_d8_10)
  obtain ⟨fs, hr, hrun, hended, hW, hsame⟩ := X1.leave (v := some (.ref c12)) (fun h => by rw [Bd.returns] at h; cases h)
  refine ⟨_, _, pre0 _ ?_, hrun, hended, _, _, rfl, ?_, ⟨_, rfl⟩, hW, hsame.mono (by decide) (by decide)⟩
  · show Steps p.tables e below (s₁.setTop (mkF m 0 #[.val (.ref c5), .val (.int (0 : Int32))] [])) _
    refine XS.iloadN X0.here hx rfl (hb hby own_d8_0) rfl ?_
    show Steps p.tables e below (s₁.setTop (mkF m 1 #[.val (.ref c5), .val (.int (0 : Int32))] [(.int (0 : Int32))])) _
    refine XS.ifYes X0.here hx rfl (pc0 := 1) (pc' := 10) rfl (hb hby own_d8_1) rfl ((if0 _ _).trans (teq (by decide : (0 : Int32) = (0 : Int32))).1) (by decide) (by decide) ?_
    show Steps p.tables e below (s₁.setTop (mkF m 10 #[.val (.ref c5), .val (.int (0 : Int32))] [])) _
    refine st1 _ ?_
    show Steps p.tables e below (T1.setTop (mkF m 13 #[.val (.ref c5), .val (.int (0 : Int32))] [(.ref c12)])) _
    jvm_step X1.here [X1.here.top, hx, (hb hby own_d8_13), X1.method', Bd.returns, Value.isRef, FieldType.isReference]
    first | (intro acts; rw [hr _ acts rfl rfl rfl]) | rw [hr _ _ rfl rfl rfl]
    exact Steps.refl _
  · show own_Q _ h0 n0 _ T1.heap _
    exact ⟨rfl, N0, e1⟩
theorem own_d8_4 : decode prog_24_method_2_code 4 = .ok (.getstatic 7, 3) := by decide +kernel
theorem own_d8_7 : decode prog_24_method_2_code 7 = .ok (.goto 6, 3) := by decide +kernel
set_option maxRecDepth 65536 in
set_option maxHeartbeats 40000000 in
theorem own_r8_1 (l : Launch) (Z : State) (a0 : Array Value) (hw : ∀ d ∈ tables_1, d.before a0 Z = true) (ws : List Jvm.Cond)  (c0 c1 c2 c3 c4 c5 c6 c7 c8 c9 c10 c11 c12 c13 : Addr) (h0 : Heap) (n0 : Nat) (Z0 : n0 ≤ h0.size) (K : own_W Z h0 c0 c1 c2 c3 c4 c5 c6 c7 c8 c9 c10 c11 c12 c13)  :
    MetFree l (⟨"com/example/midpoint/midpoint/rounding/Mode$5", "onMagnitude", "(Z)Ljava/math/RoundingMode;"⟩ : MethodName) (head1 (Jvm.Cond.code (⟨"com/example/midpoint/midpoint/rounding/Mode$5", "onMagnitude", "(Z)Ljava/math/RoundingMode;"⟩ : MethodName) prog_24_method_2_code 2 (some (.object "java/math/RoundingMode")) :: ws) ({ frames := 0, cells := 0, slots := 0, locals := 0 } : Room)) (fun a U => a = #[(.ref c5), (.int (1 : Int32))] ∧ Z.Warmed39 U.vm ∧ U.heap = h0) (fun _ _ _ _ _ => True) (fun _ U o U' => ∃ v L, o = .returned v ∧ own_Q (.ref c11) h0 n0 v U'.heap L ∧ FrameEnd U o U' L ({ frames := 0, cells := 0, slots := 0, locals := 0 } : Room).cells ({ frames := 0, cells := 0, slots := 0, locals := 0 } : Room).slots) := by
  have K' := K
  obtain ⟨S0, E0, S1, E1, S2, E2, S3, E3, S4, E4, S5, E5, S6, E6, S7, E7, S8, E8, S9, E9, S10, E10, S11, E11, S12, E12, S13, E13, F0, F1, F2, F3, F4⟩ := K'
  refine MetFree.of_bodySF (plainFor_of_name own_pn6) hisR ?_
  intro p e s m args below meth c s₁ Bd hml0 hP hK
  obtain ⟨rfl, hZ, hh⟩ := hP
  have hx := Bd.exec
  have hby := Bd.bytes
  have hml : c.maxLocals = 2 := hml0
  have hown : s.vm.findClass "com/example/midpoint/midpoint/rounding/Mode$5" = some m.cls := findClass_of_methodNamed Bd.named
  have X0 : Stand p l e ({ frames := 0, cells := 0, slots := 0, locals := 0 } : Room) s m #[(.ref c5), (.int (1 : Int32))] below meth c s₁ [] 0 0 := Stand.of_body Bd
  have e0 : s₁.heap = h0 := by rw [← hh, Bd.state]; rfl
  have N0 := Fr.nil n0
  have pre0 : ∀ t, Steps p.tables e below (s₁.setTop (mkF m 0 #[.val (.ref c5), .val (.int (1 : Int32))] [])) t → Steps p.tables e below (s₁.setTop (entryFrame m #[(.ref c5), (.int (1 : Int32))] 2)) t := fun t k => castTop (own_ef8 m c5 (1 : Int32)) k
  obtain ⟨T1, X1, e1, st1⟩ := getS2 X0 hx hZ hown (host := "") (Or.inl (hw _ (List.mem_of_getElem? (i := 63) rfl))) Via.refl e0 S11 (g := (mkF m 4 #[.val (.ref c5), .val (.int (1 : Int32))] [])) rfl (hb hby own_d8_4)
  obtain ⟨fs, hr, hrun, hended, hW, hsame⟩ := X1.leave (v := some (.ref c11)) (fun h => by rw [Bd.returns] at h; cases h)
  refine ⟨_, _, pre0 _ ?_, hrun, hended, _, _, rfl, ?_, ⟨_, rfl⟩, hW, hsame.mono (by decide) (by decide)⟩
  · show Steps p.tables e below (s₁.setTop (mkF m 0 #[.val (.ref c5), .val (.int (1 : Int32))] [])) _
    refine XS.iloadN X0.here hx rfl (hb hby own_d8_0) rfl ?_
    show Steps p.tables e below (s₁.setTop (mkF m 1 #[.val (.ref c5), .val (.int (1 : Int32))] [(.int (1 : Int32))])) _
    refine XS.ifNo X0.here hx rfl (hb hby own_d8_1) rfl ((if0 _ _).trans (feq (by decide : ¬ ((1 : Int32) = (0 : Int32)))).1) ?_
    show Steps p.tables e below (s₁.setTop (mkF m 4 #[.val (.ref c5), .val (.int (1 : Int32))] [])) _
    refine st1 _ ?_
    show Steps p.tables e below (T1.setTop (mkF m 7 #[.val (.ref c5), .val (.int (1 : Int32))] [(.ref c11)])) _
    refine XS.goto X1.here hx rfl (pc0 := 7) (pc' := 13) rfl (hb hby own_d8_7) (by decide) (by decide) ?_
    show Steps p.tables e below (T1.setTop (mkF m 13 #[.val (.ref c5), .val (.int (1 : Int32))] [(.ref c11)])) _
    jvm_step X1.here [X1.here.top, hx, (hb hby own_d8_13), X1.method', Bd.returns, Value.isRef, FieldType.isReference]
    first | (intro acts; rw [hr _ acts rfl rfl rfl]) | rw [hr _ _ rfl rfl rfl]
    exact Steps.refl _
  · show own_Q _ h0 n0 _ T1.heap _
    exact ⟨rfl, N0, e1⟩
set_option maxRecDepth 65536 in
set_option maxHeartbeats 40000000 in
theorem own_r2_4 (l : Launch) (Z : State) (a0 : Array Value) (hw : ∀ d ∈ tables_1, d.before a0 Z = true) (ws : List Jvm.Cond)  (c0 c1 c2 c3 c4 c5 c6 c7 c8 c9 c10 c11 c12 c13 : Addr) (h0 : Heap) (n0 : Nat) (Z0 : n0 ≤ h0.size) (K : own_W Z h0 c0 c1 c2 c3 c4 c5 c6 c7 c8 c9 c10 c11 c12 c13)  :
    MetFree l (⟨"com/example/midpoint/midpoint/rounding/Mode", "isSymmetric", "()Z"⟩ : MethodName) (head1 (Jvm.Cond.code (⟨"com/example/midpoint/midpoint/rounding/Mode", "isSymmetric", "()Z"⟩ : MethodName) prog_19_method_7_code 1 (some .boolean) :: ws) ({ frames := 1, cells := 0, slots := 0, locals := 14 } : Room)) (fun a U => a = #[(.ref c5)] ∧ Z.Warmed39 U.vm ∧ U.heap = h0) (fun _ _ _ _ _ => True) (fun _ U o U' => ∃ v L, o = .returned v ∧ own_Q (.int (0 : Int32)) h0 n0 v U'.heap L ∧ FrameEnd U o U' L ({ frames := 1, cells := 0, slots := 0, locals := 14 } : Room).cells ({ frames := 1, cells := 0, slots := 0, locals := 14 } : Room).slots) := by
  have K' := K
  obtain ⟨S0, E0, S1, E1, S2, E2, S3, E3, S4, E4, S5, E5, S6, E6, S7, E7, S8, E8, S9, E9, S10, E10, S11, E11, S12, E12, S13, E13, F0, F1, F2, F3, F4⟩ := K'
  have ne_12_11 : ¬ (c12 = c11) := (Fld.ne F3 F2 (fun q => absurd (Value.int.inj q) (by decide)))
  refine MetFree.of_bodySF (plainFor_of_name own_pn2) hisR ?_
  intro p e s m args below meth c s₁ Bd hml0 hP hK
  obtain ⟨rfl, hZ, hh⟩ := hP
  have hx := Bd.exec
  have hby := Bd.bytes
  have hml : c.maxLocals = 1 := hml0
  have hown : s.vm.findClass "com/example/midpoint/midpoint/rounding/Mode" = some m.cls := findClass_of_methodNamed Bd.named
  have X0 : Stand p l e ({ frames := 1, cells := 0, slots := 0, locals := 14 } : Room) s m #[(.ref c5)] below meth c s₁ [] 0 0 := Stand.of_body Bd
  have e0 : s₁.heap = h0 := by rw [← hh, Bd.state]; rfl
  have N0 := Fr.nil n0
  have pre0 : ∀ t, Steps p.tables e below (s₁.setTop (mkF m 0 #[.val (.ref c5)] [])) t → Steps p.tables e below (s₁.setTop (entryFrame m #[(.ref c5)] 1)) t := fun t k => castTop (own_ef2 m c5) k
  obtain ⟨cq1, kq1, q1a, q1b, q1c⟩ := isOf hZ e0 E5
  obtain ⟨_, _, ⟨T1, L1, k1, n1⟩, -, X1, ⟨Lc1, hQ1, l1, y1, z1⟩, st1⟩ := X0.virtualBack hx (y := (⟨"com/example/midpoint/midpoint/rounding/Mode", "onMagnitude", "(Z)Ljava/math/RoundingMode;"⟩ : MethodName)) (z := (⟨"com/example/midpoint/midpoint/rounding/Mode$5", "onMagnitude", "(Z)Ljava/math/RoundingMode;"⟩ : MethodName)) hown (mvT hZ (hw _ (List.mem_of_getElem? (i := 13) rfl))) (mvT hZ (hw _ (List.mem_of_getElem? (i := 14) rfl))) (own_nf (args := #[]) (D := "com/example/midpoint/midpoint/rounding/Mode$1") (n := "isSymmetric") (d := "()Z") (mvT hZ (hw _ (List.mem_of_getElem? (i := 11) rfl))) (mvT hZ (hw _ (List.mem_of_getElem? (i := 9) rfl)))) (mvT hZ (hw _ (List.mem_of_getElem? (i := 58) rfl))) (mvT hZ (hw _ (List.mem_of_getElem? (i := 59) rfl))) (by decide) (backOf (W := 0) (own_r8_0 l Z a0 hw [] c0 c1 c2 c3 c4 c5 c6 c7 c8 c9 c10 c11 c12 c13 h0 n0 Z0 K) hZ (hw _ (List.mem_of_getElem? (i := 61) rfl)) (hw _ (List.mem_of_getElem? (i := 60) rfl)) (by decide) (by decide)) q1a q1c (g := (mkF m 2 #[.val (.ref c5)] [(.int (0 : Int32)), (.ref c5)])) rfl (by rw [hml]; rfl) (Steps.refl _) (argsL := [(.int (0 : Int32))]) (rest := []) (lenOf own_pd1 rfl) rfl (by show 2 * 0 + _ ≤ _; exact Nat.le_of_eq rfl) (hb hby own_d2_2) (fun _ _ => ⟨rfl, e0, (by decide : 0 + 0 ≤ _), (by decide : 0 + 0 ≤ _)⟩)
  dsimp only [Pt.U, Pt.locs, Pt.cells, Pt.slots] at X1 l1 y1 z1 st1 hQ1
  subst l1 y1 z1
  obtain ⟨rfl, N1q, e1⟩ := hQ1
  have N1 := Fr.app N0 N1q
  obtain ⟨cq2, kq2, q2a, q2b, q2c⟩ := isOf hZ e1 E5
  obtain ⟨_, _, ⟨T2, L2, k2, n2⟩, -, X2, ⟨Lc2, hQ2, l2, y2, z2⟩, st2⟩ := X1.virtualBack hx (y := (⟨"com/example/midpoint/midpoint/rounding/Mode", "onMagnitude", "(Z)Ljava/math/RoundingMode;"⟩ : MethodName)) (z := (⟨"com/example/midpoint/midpoint/rounding/Mode$5", "onMagnitude", "(Z)Ljava/math/RoundingMode;"⟩ : MethodName)) hown (mvT hZ (hw _ (List.mem_of_getElem? (i := 13) rfl))) (mvT hZ (hw _ (List.mem_of_getElem? (i := 14) rfl))) (own_nf (args := #[]) (D := "com/example/midpoint/midpoint/rounding/Mode$1") (n := "isSymmetric") (d := "()Z") (mvT hZ (hw _ (List.mem_of_getElem? (i := 11) rfl))) (mvT hZ (hw _ (List.mem_of_getElem? (i := 9) rfl)))) (mvT hZ (hw _ (List.mem_of_getElem? (i := 58) rfl))) (mvT hZ (hw _ (List.mem_of_getElem? (i := 59) rfl))) (by decide) (backOf (W := 1) (own_r8_1 l Z a0 hw [] c0 c1 c2 c3 c4 c5 c6 c7 c8 c9 c10 c11 c12 c13 h0 n0 Z0 K) hZ (hw _ (List.mem_of_getElem? (i := 61) rfl)) (hw _ (List.mem_of_getElem? (i := 60) rfl)) (by decide) (by decide)) q2a q2c (g := (mkF m 7 #[.val (.ref c5)] [(.int (1 : Int32)), (.ref c5), (.ref c12)])) rfl (by rw [hml]; rfl) (Steps.refl _) (argsL := [(.int (1 : Int32))]) (rest := [(.ref c12)]) (lenOf own_pd1 rfl) rfl (by show 2 * 0 + _ ≤ _; exact Nat.le_of_eq rfl) (hb hby own_d2_7) (fun _ _ => ⟨rfl, e1, (by decide : 0 + 0 ≤ _), (by decide : 0 + 0 ≤ _)⟩)
  dsimp only [Pt.U, Pt.locs, Pt.cells, Pt.slots] at X2 l2 y2 z2 st2 hQ2
  subst l2 y2 z2
  obtain ⟨rfl, N2q, e2⟩ := hQ2
  have N2 := Fr.app N1 N2q
  obtain ⟨fs, hr, hrun, hended, hW, hsame⟩ := X2.leave (v := some (.int (0 : Int32))) (fun h => by rw [Bd.returns] at h; cases h)
  refine ⟨_, _, pre0 _ ?_, hrun, hended, _, _, rfl, ?_, ⟨_, rfl⟩, hW, hsame.mono (by decide) (by decide)⟩
  · show Steps p.tables e below (s₁.setTop (mkF m 0 #[.val (.ref c5)] [])) _
    refine XS.aloadN X0.here hx rfl (hb hby own_d2_0) rfl rfl ?_
    show Steps p.tables e below (s₁.setTop (mkF m 1 #[.val (.ref c5)] [(.ref c5)])) _
    refine XS.iconst X0.here hx rfl (hb hby own_d2_1) ?_
    show Steps p.tables e below (s₁.setTop (mkF m 2 #[.val (.ref c5)] [(.int (0 : Int32)), (.ref c5)])) _
    refine st1.trans ?_
    show Steps p.tables e below (T1.setTop (mkF m 5 #[.val (.ref c5)] [(.ref c12)])) _
    refine XS.aloadN X1.here hx rfl (hb hby own_d2_5) rfl rfl ?_
    show Steps p.tables e below (T1.setTop (mkF m 6 #[.val (.ref c5)] [(.ref c5), (.ref c12)])) _
    refine XS.iconst X1.here hx rfl (hb hby own_d2_6) ?_
    show Steps p.tables e below (T1.setTop (mkF m 7 #[.val (.ref c5)] [(.int (1 : Int32)), (.ref c5), (.ref c12)])) _
    refine st2.trans ?_
    show Steps p.tables e below (T2.setTop (mkF m 10 #[.val (.ref c5)] [(.ref c11), (.ref c12)])) _
    refine Jvm.RoadKit.acmp (g := (mkF m 10 #[.val (.ref c5)] [(.ref c11), (.ref c12)])) X2 hx rfl rfl rfl (pc0 := 10) (pc' := 17) (same := false) rfl (hb hby own_d2_10) rfl (decide_eq_false fun q => ne_12_11 (Value.ref.inj q)) (by decide) (by decide) ?_
    show Steps p.tables e below (T2.setTop (mkF m 17 #[.val (.ref c5)] [])) _
    refine XS.iconst X2.here hx rfl (hb hby own_d2_17) ?_
    show Steps p.tables e below (T2.setTop (mkF m 18 #[.val (.ref c5)] [(.int (0 : Int32))])) _
    exact retN X2 hx (t := .boolean) Bd.returns (by simp) (hb hby own_d2_18) hr
  · show own_Q _ h0 n0 _ T2.heap _
    exact ⟨rfl, N2, e2⟩
set_option maxRecDepth 65536 in
set_option maxHeartbeats 40000000 in
theorem own_r0_4 (l : Launch) (Z : State) (a0 : Array Value) (hw : ∀ d ∈ tables_1, d.before a0 Z = true) (ws : List Jvm.Cond) (p0 : Int32) (c0 c1 c2 c3 c4 c5 c6 c7 c8 c9 c10 c11 c12 c13 : Addr) (h0 : Heap) (n0 : Nat) (Z0 : n0 ≤ h0.size) (K : own_W Z h0 c0 c1 c2 c3 c4 c5 c6 c7 c8 c9 c10 c11 c12 c13) (hk0 : ((p0 &&& (2147483647 : Int32)) % (9 : Int32)) = (4 : Int32)) :
    MetFree l x (head1 (Jvm.Cond.code x code maxLocals ret :: ws) room_1) (fun a U => a = #[(.int p0)] ∧ Z.Warmed39 U.vm ∧ U.heap = h0) (fun _ _ _ _ _ => True) (fun _ U o U' => ∃ v L, o = .returned v ∧ own_Q (.int (1 : Int32)) h0 n0 v U'.heap L ∧ FrameEnd U o U' L room_1.cells room_1.slots) := by
  have K' := K
  obtain ⟨S0, E0, S1, E1, S2, E2, S3, E3, S4, E4, S5, E5, S6, E6, S7, E7, S8, E8, S9, E9, S10, E10, S11, E11, S12, E12, S13, E13, F0, F1, F2, F3, F4⟩ := K'
  refine MetFree.of_bodySF (plainFor_of_name own_pn0) hisR ?_
  intro p e s m args below meth c s₁ Bd hml0 hP hK
  obtain ⟨rfl, hZ, hh⟩ := hP
  have hx := Bd.exec
  have hby := Bd.bytes
  have hml : c.maxLocals = 4 := hml0
  have hown : s.vm.findClass "com/example/midpoint/midpoint/rounding/ModeIsSymmetricPinLaw" = some m.cls := findClass_of_methodNamed Bd.named
  have X0 : Stand p l e room_1 s m #[(.int p0)] below meth c s₁ [] 0 0 := Stand.of_body Bd
  have e0 : s₁.heap = h0 := by rw [← hh, Bd.state]; rfl
  have N0 := Fr.nil n0
  have pre0 : ∀ t, Steps p.tables e below (s₁.setTop (mkF m 0 #[.val (.int p0), .unset, .unset, .unset] [])) t → Steps p.tables e below (s₁.setTop (entryFrame m #[(.int p0)] maxLocals)) t := fun t k => castTop (own_ef0 m p0) k
  obtain ⟨_, _, ⟨T1, L1, k1, n1⟩, -, X1, ⟨Lc1, hQ1, l1, y1, z1⟩, st1⟩ := Jvm.LawKit.callS X0 hx (y := (⟨"com/example/midpoint/midpoint/rounding/ModeIsSymmetricPinLaw", "modeAt", "(I)Lcom/example/midpoint/midpoint/rounding/Mode;"⟩ : MethodName)) hown (mvT hZ (hw _ (List.mem_of_getElem? (i := 1) rfl))) (mvT hZ (hw _ (List.mem_of_getElem? (i := 2) rfl))) (mvT hZ (hw _ (List.mem_of_getElem? (i := 3) rfl))) (mvT hZ (hw _ (List.mem_of_getElem? (i := 4) rfl))) (by decide) (backOf (W := 0) (own_r1_4 l Z a0 hw [] c0 c1 c2 c3 c4 c5 c6 c7 c8 c9 c10 c11 c12 c13 h0 n0 Z0 K) hZ (hw _ (List.mem_of_getElem? (i := 4) rfl)) (hw _ (List.mem_of_getElem? (i := 3) rfl)) (by decide) (by decide)) (g := (mkF m 9 #[.val (.int p0), .val (.int (4 : Int32)), .unset, .unset] [(.int (4 : Int32))])) rfl (by rw [hml]; rfl) (argsL := [(.int (4 : Int32))]) (rest := []) (lenOf own_pd0 rfl) rfl (by show 2 * 0 + _ ≤ _; exact Nat.le_of_eq rfl) (hb hby at_9) (fun _ _ => ⟨rfl, e0, (by decide : 0 + 0 ≤ _), (by decide : 0 + 0 ≤ _)⟩)
  dsimp only [Pt.U, Pt.locs, Pt.cells, Pt.slots] at X1 l1 y1 z1 st1 hQ1
  subst l1 y1 z1
  obtain ⟨rfl, N1q, e1⟩ := hQ1
  have N1 := Fr.app N0 N1q
  obtain ⟨cq2, kq2, q2a, q2b, q2c⟩ := isOf hZ e1 E5
  obtain ⟨_, _, ⟨T2, L2, k2, n2⟩, -, X2, ⟨Lc2, hQ2, l2, y2, z2⟩, st2⟩ := X1.virtualBack hx (y := (⟨"com/example/midpoint/midpoint/rounding/Mode", "isSymmetric", "()Z"⟩ : MethodName)) (z := (⟨"com/example/midpoint/midpoint/rounding/Mode", "isSymmetric", "()Z"⟩ : MethodName)) hown (mvT hZ (hw _ (List.mem_of_getElem? (i := 8) rfl))) (mvT hZ (hw _ (List.mem_of_getElem? (i := 9) rfl))) (notFace_of_selects (args := #[]) (mvT hZ (hw _ (List.mem_of_getElem? (i := 57) rfl)))) (mvT hZ (hw _ (List.mem_of_getElem? (i := 57) rfl))) (mvT hZ (hw _ (List.mem_of_getElem? (i := 10) rfl))) (by decide) (backOf (W := 0) (own_r2_4 l Z a0 hw [] c0 c1 c2 c3 c4 c5 c6 c7 c8 c9 c10 c11 c12 c13 h0 n0 Z0 K) hZ (hw _ (List.mem_of_getElem? (i := 12) rfl)) (hw _ (List.mem_of_getElem? (i := 6) rfl)) (by decide) (by decide)) q2a q2c (g := (mkF m 48 #[.val (.int p0), .val (.int (4 : Int32)), .val (.ref c5), .val (.int (0 : Int32))] [(.ref c5)])) rfl (by rw [hml]; rfl) (Steps.refl _) (argsL := []) (rest := []) (lenOf own_pd2 rfl) rfl (by show 2 * 0 + _ ≤ _; exact Nat.le_of_eq rfl) (hb hby at_48) (fun _ _ => ⟨rfl, e1, (by decide : 0 + 0 ≤ _), (by decide : 0 + 0 ≤ _)⟩)
  dsimp only [Pt.U, Pt.locs, Pt.cells, Pt.slots] at X2 l2 y2 z2 st2 hQ2
  subst l2 y2 z2
  obtain ⟨rfl, N2q, e2⟩ := hQ2
  have N2 := Fr.app N1 N2q
  obtain ⟨fs, hr, hrun, hended, hW, hsame⟩ := X2.leave (v := some (.int (1 : Int32))) (fun h => by rw [Bd.returns] at h; cases h)
  refine ⟨_, _, pre0 _ ?_, hrun, hended, _, _, rfl, ?_, ⟨_, rfl⟩, hW, hsame.mono (by decide) (by decide)⟩
  · show Steps p.tables e below (s₁.setTop (mkF m 0 #[.val (.int p0), .unset, .unset, .unset] [])) _
    refine XS.iloadN X0.here hx rfl (hb hby at_0) rfl ?_
    show Steps p.tables e below (s₁.setTop (mkF m 1 #[.val (.int p0), .unset, .unset, .unset] [(.int p0)])) _
    refine X0.ldcInt hx hown (mvT hZ (hw _ (List.mem_of_getElem? (i := 0) rfl))) (g := (mkF m 1 #[.val (.int p0), .unset, .unset, .unset] [(.int p0)])) rfl (hb hby at_1) _ ?_
    show Steps p.tables e below (s₁.setTop (mkF m 3 #[.val (.int p0), .unset, .unset, .unset] [(.int (2147483647 : Int32)), (.int p0)])) _
    refine XS.iand X0.here hx rfl (hb hby at_3) rfl ?_
    show Steps p.tables e below (s₁.setTop (mkF m 4 #[.val (.int p0), .unset, .unset, .unset] [(.int (p0 &&& (2147483647 : Int32)))])) _
    refine XS.bipush X0.here hx rfl (hb hby at_4) ?_
    show Steps p.tables e below (s₁.setTop (mkF m 6 #[.val (.int p0), .unset, .unset, .unset] [(.int (9 : Int32)), (.int (p0 &&& (2147483647 : Int32)))])) _
    refine iremM X0 hx rfl (hb hby at_6) rfl (by decide) ?_
    show Steps p.tables e below (s₁.setTop (mkF m 7 #[.val (.int p0), .unset, .unset, .unset] [(.int ((p0 &&& (2147483647 : Int32)) % (9 : Int32)))])) _
    rw [hk0]
    show Steps p.tables e below (s₁.setTop (mkF m 7 #[.val (.int p0), .unset, .unset, .unset] [(.int (4 : Int32))])) _
    refine XS.istoreN X0.here hx rfl (hb hby at_7) rfl (l' := #[.val (.int p0), .val (.int (4 : Int32)), .unset, .unset]) rfl ?_
    show Steps p.tables e below (s₁.setTop (mkF m 8 #[.val (.int p0), .val (.int (4 : Int32)), .unset, .unset] [])) _
    refine XS.iloadN X0.here hx rfl (hb hby at_8) rfl ?_
    show Steps p.tables e below (s₁.setTop (mkF m 9 #[.val (.int p0), .val (.int (4 : Int32)), .unset, .unset] [(.int (4 : Int32))])) _
    refine st1 _ ?_
    show Steps p.tables e below (T1.setTop (mkF m 12 #[.val (.int p0), .val (.int (4 : Int32)), .unset, .unset] [(.ref c5)])) _
    refine XS.astoreN X1.here hx rfl (hb hby at_12) rfl rfl (l' := #[.val (.int p0), .val (.int (4 : Int32)), .val (.ref c5), .unset]) rfl ?_
    show Steps p.tables e below (T1.setTop (mkF m 13 #[.val (.int p0), .val (.int (4 : Int32)), .val (.ref c5), .unset] [])) _
    refine XS.iloadN X1.here hx rfl (hb hby at_13) rfl ?_
    show Steps p.tables e below (T1.setTop (mkF m 14 #[.val (.int p0), .val (.int (4 : Int32)), .val (.ref c5), .unset] [(.int (4 : Int32))])) _
    refine XS.iconst X1.here hx rfl (hb hby at_14) ?_
    show Steps p.tables e below (T1.setTop (mkF m 15 #[.val (.int p0), .val (.int (4 : Int32)), .val (.ref c5), .unset] [(.int (2 : Int32)), (.int (4 : Int32))])) _
    refine XS.icmpNo X1.here hx rfl (hb hby at_15) rfl (feq (by decide : ¬ ((4 : Int32) = (2 : Int32)))).1 ?_
    show Steps p.tables e below (T1.setTop (mkF m 18 #[.val (.int p0), .val (.int (4 : Int32)), .val (.ref c5), .unset] [])) _
    refine XS.iloadN X1.here hx rfl (hb hby at_18) rfl ?_
    show Steps p.tables e below (T1.setTop (mkF m 19 #[.val (.int p0), .val (.int (4 : Int32)), .val (.ref c5), .unset] [(.int (4 : Int32))])) _
    refine XS.iconst X1.here hx rfl (hb hby at_19) ?_
    show Steps p.tables e below (T1.setTop (mkF m 20 #[.val (.int p0), .val (.int (4 : Int32)), .val (.ref c5), .unset] [(.int (3 : Int32)), (.int (4 : Int32))])) _
    refine XS.icmpNo X1.here hx rfl (hb hby at_20) rfl (feq (by decide : ¬ ((4 : Int32) = (3 : Int32)))).1 ?_
    show Steps p.tables e below (T1.setTop (mkF m 23 #[.val (.int p0), .val (.int (4 : Int32)), .val (.ref c5), .unset] [])) _
    refine XS.iloadN X1.here hx rfl (hb hby at_23) rfl ?_
    show Steps p.tables e below (T1.setTop (mkF m 24 #[.val (.int p0), .val (.int (4 : Int32)), .val (.ref c5), .unset] [(.int (4 : Int32))])) _
    refine XS.bipush X1.here hx rfl (hb hby at_24) ?_
    show Steps p.tables e below (T1.setTop (mkF m 26 #[.val (.int p0), .val (.int (4 : Int32)), .val (.ref c5), .unset] [(.int (6 : Int32)), (.int (4 : Int32))])) _
    refine XS.icmpNo X1.here hx rfl (hb hby at_26) rfl (feq (by decide : ¬ ((4 : Int32) = (6 : Int32)))).1 ?_
    show Steps p.tables e below (T1.setTop (mkF m 29 #[.val (.int p0), .val (.int (4 : Int32)), .val (.ref c5), .unset] [])) _
    refine XS.iloadN X1.here hx rfl (hb hby at_29) rfl ?_
    show Steps p.tables e below (T1.setTop (mkF m 30 #[.val (.int p0), .val (.int (4 : Int32)), .val (.ref c5), .unset] [(.int (4 : Int32))])) _
    refine XS.bipush X1.here hx rfl (hb hby at_30) ?_
    show Steps p.tables e below (T1.setTop (mkF m 32 #[.val (.int p0), .val (.int (4 : Int32)), .val (.ref c5), .unset] [(.int (7 : Int32)), (.int (4 : Int32))])) _
    refine XS.icmpNo X1.here hx rfl (hb hby at_32) rfl (feq (by decide : ¬ ((4 : Int32) = (7 : Int32)))).1 ?_
    show Steps p.tables e below (T1.setTop (mkF m 35 #[.val (.int p0), .val (.int (4 : Int32)), .val (.ref c5), .unset] [])) _
    refine XS.iloadN X1.here hx rfl (hb hby at_35) rfl ?_
    show Steps p.tables e below (T1.setTop (mkF m 36 #[.val (.int p0), .val (.int (4 : Int32)), .val (.ref c5), .unset] [(.int (4 : Int32))])) _
    refine XS.bipush X1.here hx rfl (hb hby at_36) ?_
    show Steps p.tables e below (T1.setTop (mkF m 38 #[.val (.int p0), .val (.int (4 : Int32)), .val (.ref c5), .unset] [(.int (8 : Int32)), (.int (4 : Int32))])) _
    refine XS.icmpYes X1.here hx rfl (pc0 := 38) (pc' := 45) rfl (hb hby at_38) rfl (feq (by decide : ¬ ((4 : Int32) = (8 : Int32)))).2 (by decide) (by decide) ?_
    show Steps p.tables e below (T1.setTop (mkF m 45 #[.val (.int p0), .val (.int (4 : Int32)), .val (.ref c5), .unset] [])) _
    refine XS.iconst X1.here hx rfl (hb hby at_45) ?_
    show Steps p.tables e below (T1.setTop (mkF m 46 #[.val (.int p0), .val (.int (4 : Int32)), .val (.ref c5), .unset] [(.int (0 : Int32))])) _
    refine XS.istoreN X1.here hx rfl (hb hby at_46) rfl (l' := #[.val (.int p0), .val (.int (4 : Int32)), .val (.ref c5), .val (.int (0 : Int32))]) rfl ?_
    show Steps p.tables e below (T1.setTop (mkF m 47 #[.val (.int p0), .val (.int (4 : Int32)), .val (.ref c5), .val (.int (0 : Int32))] [])) _
    refine XS.aloadN X1.here hx rfl (hb hby at_47) rfl rfl ?_
    show Steps p.tables e below (T1.setTop (mkF m 48 #[.val (.int p0), .val (.int (4 : Int32)), .val (.ref c5), .val (.int (0 : Int32))] [(.ref c5)])) _
    refine st2.trans ?_
    show Steps p.tables e below (T2.setTop (mkF m 51 #[.val (.int p0), .val (.int (4 : Int32)), .val (.ref c5), .val (.int (0 : Int32))] [(.int (0 : Int32))])) _
    refine XS.iloadN X2.here hx rfl (hb hby at_51) rfl ?_
    show Steps p.tables e below (T2.setTop (mkF m 52 #[.val (.int p0), .val (.int (4 : Int32)), .val (.ref c5), .val (.int (0 : Int32))] [(.int (0 : Int32)), (.int (0 : Int32))])) _
    refine XS.icmpNo X2.here hx rfl (hb hby at_52) rfl (teq (by decide : (0 : Int32) = (0 : Int32))).2 ?_
    show Steps p.tables e below (T2.setTop (mkF m 55 #[.val (.int p0), .val (.int (4 : Int32)), .val (.ref c5), .val (.int (0 : Int32))] [])) _
    refine XS.iconst X2.here hx rfl (hb hby at_55) ?_
    show Steps p.tables e below (T2.setTop (mkF m 56 #[.val (.int p0), .val (.int (4 : Int32)), .val (.ref c5), .val (.int (0 : Int32))] [(.int (1 : Int32))])) _
    refine XS.goto X2.here hx rfl (pc0 := 56) (pc' := 60) rfl (hb hby at_56) (by decide) (by decide) ?_
    show Steps p.tables e below (T2.setTop (mkF m 60 #[.val (.int p0), .val (.int (4 : Int32)), .val (.ref c5), .val (.int (0 : Int32))] [(.int (1 : Int32))])) _
    exact retN X2 hx (t := .boolean) Bd.returns (by simp) (hb hby at_60) hr
  · show own_Q _ h0 n0 _ T2.heap _
    exact ⟨rfl, N2, e2⟩
theorem own_d1_44 : decode method_3_code 44 = .ok (.iload_n 0, 1) := by decide +kernel
theorem own_d1_45 : decode method_3_code 45 = .ok (.iconst 5, 1) := by decide +kernel
theorem own_d1_46 : decode method_3_code 46 = .ok (.if_icmp .ne 7, 3) := by decide +kernel
theorem own_d1_49 : decode method_3_code 49 = .ok (.getstatic 36, 3) := by decide +kernel
theorem own_d1_52 : decode method_3_code 52 = .ok (.areturn, 1) := by decide +kernel
set_option maxRecDepth 65536 in
set_option maxHeartbeats 40000000 in
theorem own_r1_5 (l : Launch) (Z : State) (a0 : Array Value) (hw : ∀ d ∈ tables_1, d.before a0 Z = true) (ws : List Jvm.Cond)  (c0 c1 c2 c3 c4 c5 c6 c7 c8 c9 c10 c11 c12 c13 : Addr) (h0 : Heap) (n0 : Nat) (Z0 : n0 ≤ h0.size) (K : own_W Z h0 c0 c1 c2 c3 c4 c5 c6 c7 c8 c9 c10 c11 c12 c13)  :
    MetFree l (⟨"com/example/midpoint/midpoint/rounding/ModeIsSymmetricPinLaw", "modeAt", "(I)Lcom/example/midpoint/midpoint/rounding/Mode;"⟩ : MethodName) (head1 (Jvm.Cond.code (⟨"com/example/midpoint/midpoint/rounding/ModeIsSymmetricPinLaw", "modeAt", "(I)Lcom/example/midpoint/midpoint/rounding/Mode;"⟩ : MethodName) method_3_code 1 (some (.object "com/example/midpoint/midpoint/rounding/Mode")) :: ws) ({ frames := 0, cells := 0, slots := 0, locals := 0 } : Room)) (fun a U => a = #[(.int (5 : Int32))] ∧ Z.Warmed39 U.vm ∧ U.heap = h0) (fun _ _ _ _ _ => True) (fun _ U o U' => ∃ v L, o = .returned v ∧ own_Q (.ref c8) h0 n0 v U'.heap L ∧ FrameEnd U o U' L ({ frames := 0, cells := 0, slots := 0, locals := 0 } : Room).cells ({ frames := 0, cells := 0, slots := 0, locals := 0 } : Room).slots) := by
  have K' := K
  obtain ⟨S0, E0, S1, E1, S2, E2, S3, E3, S4, E4, S5, E5, S6, E6, S7, E7, S8, E8, S9, E9, S10, E10, S11, E11, S12, E12, S13, E13, F0, F1, F2, F3, F4⟩ := K'
  refine MetFree.of_bodySF (plainFor_of_name own_pn0) hisR ?_
  intro p e s m args below meth c s₁ Bd hml0 hP hK
  obtain ⟨rfl, hZ, hh⟩ := hP
  have hx := Bd.exec
  have hby := Bd.bytes
  have hml : c.maxLocals = 1 := hml0
  have hown : s.vm.findClass "com/example/midpoint/midpoint/rounding/ModeIsSymmetricPinLaw" = some m.cls := findClass_of_methodNamed Bd.named
  have X0 : Stand p l e ({ frames := 0, cells := 0, slots := 0, locals := 0 } : Room) s m #[(.int (5 : Int32))] below meth c s₁ [] 0 0 := Stand.of_body Bd
  have e0 : s₁.heap = h0 := by rw [← hh, Bd.state]; rfl
  have N0 := Fr.nil n0
  have pre0 : ∀ t, Steps p.tables e below (s₁.setTop (mkF m 0 #[.val (.int (5 : Int32))] [])) t → Steps p.tables e below (s₁.setTop (entryFrame m #[(.int (5 : Int32))] 1)) t := fun t k => castTop (own_ef1 m (5 : Int32)) k
  obtain ⟨T1, X1, e1, st1⟩ := getS2 X0 hx hZ hown (host := "") (Or.inl (hw _ (List.mem_of_getElem? (i := 80) rfl))) Via.refl e0 S8 (g := (mkF m 49 #[.val (.int (5 : Int32))] [])) rfl (hb hby own_d1_49)
  obtain ⟨fs, hr, hrun, hended, hW, hsame⟩ := X1.leave (v := some (.ref c8)) (fun h => by rw [Bd.returns] at h; cases h)
  refine ⟨_, _, pre0 _ ?_, hrun, hended, _, _, rfl, ?_, ⟨_, rfl⟩, hW, hsame.mono (by decide) (by decide)⟩
  · show Steps p.tables e below (s₁.setTop (mkF m 0 #[.val (.int (5 : Int32))] [])) _
    refine XS.iloadN X0.here hx rfl (hb hby own_d1_0) rfl ?_
    show Steps p.tables e below (s₁.setTop (mkF m 1 #[.val (.int (5 : Int32))] [(.int (5 : Int32))])) _
    refine XS.ifYes X0.here hx rfl (pc0 := 1) (pc' := 8) rfl (hb hby own_d1_1) rfl ((if0 _ _).trans (feq (by decide : ¬ ((5 : Int32) = (0 : Int32)))).2) (by decide) (by decide) ?_
    show Steps p.tables e below (s₁.setTop (mkF m 8 #[.val (.int (5 : Int32))] [])) _
    refine XS.iloadN X0.here hx rfl (hb hby own_d1_8) rfl ?_
    show Steps p.tables e below (s₁.setTop (mkF m 9 #[.val (.int (5 : Int32))] [(.int (5 : Int32))])) _
    refine XS.iconst X0.here hx rfl (hb hby own_d1_9) ?_
    show Steps p.tables e below (s₁.setTop (mkF m 10 #[.val (.int (5 : Int32))] [(.int (1 : Int32)), (.int (5 : Int32))])) _
    refine XS.icmpYes X0.here hx rfl (pc0 := 10) (pc' := 17) rfl (hb hby own_d1_10) rfl (feq (by decide : ¬ ((5 : Int32) = (1 : Int32)))).2 (by decide) (by decide) ?_
    show Steps p.tables e below (s₁.setTop (mkF m 17 #[.val (.int (5 : Int32))] [])) _
    refine XS.iloadN X0.here hx rfl (hb hby own_d1_17) rfl ?_
    show Steps p.tables e below (s₁.setTop (mkF m 18 #[.val (.int (5 : Int32))] [(.int (5 : Int32))])) _
    refine XS.iconst X0.here hx rfl (hb hby own_d1_18) ?_
    show Steps p.tables e below (s₁.setTop (mkF m 19 #[.val (.int (5 : Int32))] [(.int (2 : Int32)), (.int (5 : Int32))])) _
    refine XS.icmpYes X0.here hx rfl (pc0 := 19) (pc' := 26) rfl (hb hby own_d1_19) rfl (feq (by decide : ¬ ((5 : Int32) = (2 : Int32)))).2 (by decide) (by decide) ?_
    show Steps p.tables e below (s₁.setTop (mkF m 26 #[.val (.int (5 : Int32))] [])) _
    refine XS.iloadN X0.here hx rfl (hb hby own_d1_26) rfl ?_
    show Steps p.tables e below (s₁.setTop (mkF m 27 #[.val (.int (5 : Int32))] [(.int (5 : Int32))])) _
    refine XS.iconst X0.here hx rfl (hb hby own_d1_27) ?_
    show Steps p.tables e below (s₁.setTop (mkF m 28 #[.val (.int (5 : Int32))] [(.int (3 : Int32)), (.int (5 : Int32))])) _
    refine XS.icmpYes X0.here hx rfl (pc0 := 28) (pc' := 35) rfl (hb hby own_d1_28) rfl (feq (by decide : ¬ ((5 : Int32) = (3 : Int32)))).2 (by decide) (by decide) ?_
    show Steps p.tables e below (s₁.setTop (mkF m 35 #[.val (.int (5 : Int32))] [])) _
    refine XS.iloadN X0.here hx rfl (hb hby own_d1_35) rfl ?_
    show Steps p.tables e below (s₁.setTop (mkF m 36 #[.val (.int (5 : Int32))] [(.int (5 : Int32))])) _
    refine XS.iconst X0.here hx rfl (hb hby own_d1_36) ?_
    show Steps p.tables e below (s₁.setTop (mkF m 37 #[.val (.int (5 : Int32))] [(.int (4 : Int32)), (.int (5 : Int32))])) _
    refine XS.icmpYes X0.here hx rfl (pc0 := 37) (pc' := 44) rfl (hb hby own_d1_37) rfl (feq (by decide : ¬ ((5 : Int32) = (4 : Int32)))).2 (by decide) (by decide) ?_
    show Steps p.tables e below (s₁.setTop (mkF m 44 #[.val (.int (5 : Int32))] [])) _
    refine XS.iloadN X0.here hx rfl (hb hby own_d1_44) rfl ?_
    show Steps p.tables e below (s₁.setTop (mkF m 45 #[.val (.int (5 : Int32))] [(.int (5 : Int32))])) _
    refine XS.iconst X0.here hx rfl (hb hby own_d1_45) ?_
    show Steps p.tables e below (s₁.setTop (mkF m 46 #[.val (.int (5 : Int32))] [(.int (5 : Int32)), (.int (5 : Int32))])) _
    refine XS.icmpNo X0.here hx rfl (hb hby own_d1_46) rfl (teq (by decide : (5 : Int32) = (5 : Int32))).2 ?_
    show Steps p.tables e below (s₁.setTop (mkF m 49 #[.val (.int (5 : Int32))] [])) _
    refine st1 _ ?_
    show Steps p.tables e below (T1.setTop (mkF m 52 #[.val (.int (5 : Int32))] [(.ref c8)])) _
    jvm_step X1.here [X1.here.top, hx, (hb hby own_d1_52), X1.method', Bd.returns, Value.isRef, FieldType.isReference]
    first | (intro acts; rw [hr _ acts rfl rfl rfl]) | rw [hr _ _ rfl rfl rfl]
    exact Steps.refl _
  · show own_Q _ h0 n0 _ T1.heap _
    exact ⟨rfl, N0, e1⟩
theorem own_d11_0 : decode prog_25_method_2_code 0 = .ok (.iload_n 1, 1) := by decide +kernel
theorem own_d11_1 : decode prog_25_method_2_code 1 = .ok (.ifCond .eq 9, 3) := by decide +kernel
theorem own_d11_10 : decode prog_25_method_2_code 10 = .ok (.getstatic 13, 3) := by decide +kernel
theorem own_d11_13 : decode prog_25_method_2_code 13 = .ok (.areturn, 1) := by decide +kernel
theorem own_pn7 : plainName "com/example/midpoint/midpoint/rounding/Mode$6" = true := by first | (simp [plainName, overriddenIn]; done) | decide +kernel
theorem own_ef11 (m : MethodId) (x0 : Addr) (x1 : Int32) : entryFrame m #[(.ref x0), (.int x1)] 2 = mkF m 0 #[.val (.ref x0), .val (.int x1)] [] := by first | (simp [entryFrame, mkF, argsToLocals, Value.category]; done) | rfl
set_option maxRecDepth 65536 in
set_option maxHeartbeats 40000000 in
theorem own_r11_0 (l : Launch) (Z : State) (a0 : Array Value) (hw : ∀ d ∈ tables_1, d.before a0 Z = true) (ws : List Jvm.Cond)  (c0 c1 c2 c3 c4 c5 c6 c7 c8 c9 c10 c11 c12 c13 : Addr) (h0 : Heap) (n0 : Nat) (Z0 : n0 ≤ h0.size) (K : own_W Z h0 c0 c1 c2 c3 c4 c5 c6 c7 c8 c9 c10 c11 c12 c13)  :
    MetFree l (⟨"com/example/midpoint/midpoint/rounding/Mode$6", "onMagnitude", "(Z)Ljava/math/RoundingMode;"⟩ : MethodName) (head1 (Jvm.Cond.code (⟨"com/example/midpoint/midpoint/rounding/Mode$6", "onMagnitude", "(Z)Ljava/math/RoundingMode;"⟩ : MethodName) prog_25_method_2_code 2 (some (.object "java/math/RoundingMode")) :: ws) ({ frames := 0, cells := 0, slots := 0, locals := 0 } : Room)) (fun a U => a = #[(.ref c8), (.int (0 : Int32))] ∧ Z.Warmed39 U.vm ∧ U.heap = h0) (fun _ _ _ _ _ => True) (fun _ U o U' => ∃ v L, o = .returned v ∧ own_Q (.ref c11) h0 n0 v U'.heap L ∧ FrameEnd U o U' L ({ frames := 0, cells := 0, slots := 0, locals := 0 } : Room).cells ({ frames := 0, cells := 0, slots := 0, locals := 0 } : Room).slots) := by
  have K' := K
  obtain ⟨S0, E0, S1, E1, S2, E2, S3, E3, S4, E4, S5, E5, S6, E6, S7, E7, S8, E8, S9, E9, S10, E10, S11, E11, S12, E12, S13, E13, F0, F1, F2, F3, F4⟩ := K'
  refine MetFree.of_bodySF (plainFor_of_name own_pn7) hisR ?_
  intro p e s m args below meth c s₁ Bd hml0 hP hK
  obtain ⟨rfl, hZ, hh⟩ := hP
  have hx := Bd.exec
  have hby := Bd.bytes
  have hml : c.maxLocals = 2 := hml0
  have hown : s.vm.findClass "com/example/midpoint/midpoint/rounding/Mode$6" = some m.cls := findClass_of_methodNamed Bd.named
  have X0 : Stand p l e ({ frames := 0, cells := 0, slots := 0, locals := 0 } : Room) s m #[(.ref c8), (.int (0 : Int32))] below meth c s₁ [] 0 0 := Stand.of_body Bd
  have e0 : s₁.heap = h0 := by rw [← hh, Bd.state]; rfl
  have N0 := Fr.nil n0
  have pre0 : ∀ t, Steps p.tables e below (s₁.setTop (mkF m 0 #[.val (.ref c8), .val (.int (0 : Int32))] [])) t → Steps p.tables e below (s₁.setTop (entryFrame m #[(.ref c8), (.int (0 : Int32))] 2)) t := fun t k => castTop (own_ef11 m c8 (0 : Int32)) k
  obtain ⟨T1, X1, e1, st1⟩ := getS2 X0 hx hZ hown (host := "") (Or.inl (hw _ (List.mem_of_getElem? (i := 87) rfl))) Via.refl e0 S11 (g := (mkF m 10 #[.val (.ref c8), .val (.int (0 : Int32))] [])) rfl (hb hby own_d11_10)
  obtain ⟨fs, hr, hrun, hended, hW, hsame⟩ := X1.leave (v := some (.ref c11)) (fun h => by rw [Bd.returns] at h; cases h)
  refine ⟨_, _, pre0 _ ?_, hrun, hended, _, _, rfl, ?_, ⟨_, rfl⟩, hW, hsame.mono (by decide) (by decide)⟩
  · show Steps p.tables e below (s₁.setTop (mkF m 0 #[.val (.ref c8), .val (.int (0 : Int32))] [])) _
    refine XS.iloadN X0.here hx rfl (hb hby own_d11_0) rfl ?_
    show Steps p.tables e below (s₁.setTop (mkF m 1 #[.val (.ref c8), .val (.int (0 : Int32))] [(.int (0 : Int32))])) _
    refine XS.ifYes X0.here hx rfl (pc0 := 1) (pc' := 10) rfl (hb hby own_d11_1) rfl ((if0 _ _).trans (teq (by decide : (0 : Int32) = (0 : Int32))).1) (by decide) (by decide) ?_
    show Steps p.tables e below (s₁.setTop (mkF m 10 #[.val (.ref c8), .val (.int (0 : Int32))] [])) _
    refine st1 _ ?_
    show Steps p.tables e below (T1.setTop (mkF m 13 #[.val (.ref c8), .val (.int (0 : Int32))] [(.ref c11)])) _
    jvm_step X1.here [X1.here.top, hx, (hb hby own_d11_13), X1.method', Bd.returns, Value.isRef, FieldType.isReference]
    first | (intro acts; rw [hr _ acts rfl rfl rfl]) | rw [hr _ _ rfl rfl rfl]
    exact Steps.refl _
  · show own_Q _ h0 n0 _ T1.heap _
    exact ⟨rfl, N0, e1⟩
theorem own_d11_4 : decode prog_25_method_2_code 4 = .ok (.getstatic 7, 3) := by decide +kernel
theorem own_d11_7 : decode prog_25_method_2_code 7 = .ok (.goto 6, 3) := by decide +kernel
set_option maxRecDepth 65536 in
set_option maxHeartbeats 40000000 in
theorem own_r11_1 (l : Launch) (Z : State) (a0 : Array Value) (hw : ∀ d ∈ tables_1, d.before a0 Z = true) (ws : List Jvm.Cond)  (c0 c1 c2 c3 c4 c5 c6 c7 c8 c9 c10 c11 c12 c13 : Addr) (h0 : Heap) (n0 : Nat) (Z0 : n0 ≤ h0.size) (K : own_W Z h0 c0 c1 c2 c3 c4 c5 c6 c7 c8 c9 c10 c11 c12 c13)  :
    MetFree l (⟨"com/example/midpoint/midpoint/rounding/Mode$6", "onMagnitude", "(Z)Ljava/math/RoundingMode;"⟩ : MethodName) (head1 (Jvm.Cond.code (⟨"com/example/midpoint/midpoint/rounding/Mode$6", "onMagnitude", "(Z)Ljava/math/RoundingMode;"⟩ : MethodName) prog_25_method_2_code 2 (some (.object "java/math/RoundingMode")) :: ws) ({ frames := 0, cells := 0, slots := 0, locals := 0 } : Room)) (fun a U => a = #[(.ref c8), (.int (1 : Int32))] ∧ Z.Warmed39 U.vm ∧ U.heap = h0) (fun _ _ _ _ _ => True) (fun _ U o U' => ∃ v L, o = .returned v ∧ own_Q (.ref c12) h0 n0 v U'.heap L ∧ FrameEnd U o U' L ({ frames := 0, cells := 0, slots := 0, locals := 0 } : Room).cells ({ frames := 0, cells := 0, slots := 0, locals := 0 } : Room).slots) := by
  have K' := K
  obtain ⟨S0, E0, S1, E1, S2, E2, S3, E3, S4, E4, S5, E5, S6, E6, S7, E7, S8, E8, S9, E9, S10, E10, S11, E11, S12, E12, S13, E13, F0, F1, F2, F3, F4⟩ := K'
  refine MetFree.of_bodySF (plainFor_of_name own_pn7) hisR ?_
  intro p e s m args below meth c s₁ Bd hml0 hP hK
  obtain ⟨rfl, hZ, hh⟩ := hP
  have hx := Bd.exec
  have hby := Bd.bytes
  have hml : c.maxLocals = 2 := hml0
  have hown : s.vm.findClass "com/example/midpoint/midpoint/rounding/Mode$6" = some m.cls := findClass_of_methodNamed Bd.named
  have X0 : Stand p l e ({ frames := 0, cells := 0, slots := 0, locals := 0 } : Room) s m #[(.ref c8), (.int (1 : Int32))] below meth c s₁ [] 0 0 := Stand.of_body Bd
  have e0 : s₁.heap = h0 := by rw [← hh, Bd.state]; rfl
  have N0 := Fr.nil n0
  have pre0 : ∀ t, Steps p.tables e below (s₁.setTop (mkF m 0 #[.val (.ref c8), .val (.int (1 : Int32))] [])) t → Steps p.tables e below (s₁.setTop (entryFrame m #[(.ref c8), (.int (1 : Int32))] 2)) t := fun t k => castTop (own_ef11 m c8 (1 : Int32)) k
  obtain ⟨T1, X1, e1, st1⟩ := getS2 X0 hx hZ hown (host := "") (Or.inl (hw _ (List.mem_of_getElem? (i := 88) rfl))) Via.refl e0 S12 (g := (mkF m 4 #[.val (.ref c8), .val (.int (1 : Int32))] [])) rfl (hb hby own_d11_4)
  obtain ⟨fs, hr, hrun, hended, hW, hsame⟩ := X1.leave (v := some (.ref c12)) (fun h => by rw [Bd.returns] at h; cases h)
  refine ⟨_, _, pre0 _ ?_, hrun, hended, _, _, rfl, ?_, ⟨_, rfl⟩, hW, hsame.mono (by decide) (by decide)⟩
  · show Steps p.tables e below (s₁.setTop (mkF m 0 #[.val (.ref c8), .val (.int (1 : Int32))] [])) _
    refine XS.iloadN X0.here hx rfl (hb hby own_d11_0) rfl ?_
    show Steps p.tables e below (s₁.setTop (mkF m 1 #[.val (.ref c8), .val (.int (1 : Int32))] [(.int (1 : Int32))])) _
    refine XS.ifNo X0.here hx rfl (hb hby own_d11_1) rfl ((if0 _ _).trans (feq (by decide : ¬ ((1 : Int32) = (0 : Int32)))).1) ?_
    show Steps p.tables e below (s₁.setTop (mkF m 4 #[.val (.ref c8), .val (.int (1 : Int32))] [])) _
    refine st1 _ ?_
    show Steps p.tables e below (T1.setTop (mkF m 7 #[.val (.ref c8), .val (.int (1 : Int32))] [(.ref c12)])) _
    refine XS.goto X1.here hx rfl (pc0 := 7) (pc' := 13) rfl (hb hby own_d11_7) (by decide) (by decide) ?_
    show Steps p.tables e below (T1.setTop (mkF m 13 #[.val (.ref c8), .val (.int (1 : Int32))] [(.ref c12)])) _
    jvm_step X1.here [X1.here.top, hx, (hb hby own_d11_13), X1.method', Bd.returns, Value.isRef, FieldType.isReference]
    first | (intro acts; rw [hr _ acts rfl rfl rfl]) | rw [hr _ _ rfl rfl rfl]
    exact Steps.refl _
  · show own_Q _ h0 n0 _ T1.heap _
    exact ⟨rfl, N0, e1⟩
set_option maxRecDepth 65536 in
set_option maxHeartbeats 40000000 in
theorem own_r2_5 (l : Launch) (Z : State) (a0 : Array Value) (hw : ∀ d ∈ tables_1, d.before a0 Z = true) (ws : List Jvm.Cond)  (c0 c1 c2 c3 c4 c5 c6 c7 c8 c9 c10 c11 c12 c13 : Addr) (h0 : Heap) (n0 : Nat) (Z0 : n0 ≤ h0.size) (K : own_W Z h0 c0 c1 c2 c3 c4 c5 c6 c7 c8 c9 c10 c11 c12 c13)  :
    MetFree l (⟨"com/example/midpoint/midpoint/rounding/Mode", "isSymmetric", "()Z"⟩ : MethodName) (head1 (Jvm.Cond.code (⟨"com/example/midpoint/midpoint/rounding/Mode", "isSymmetric", "()Z"⟩ : MethodName) prog_19_method_7_code 1 (some .boolean) :: ws) ({ frames := 1, cells := 0, slots := 0, locals := 14 } : Room)) (fun a U => a = #[(.ref c8)] ∧ Z.Warmed39 U.vm ∧ U.heap = h0) (fun _ _ _ _ _ => True) (fun _ U o U' => ∃ v L, o = .returned v ∧ own_Q (.int (0 : Int32)) h0 n0 v U'.heap L ∧ FrameEnd U o U' L ({ frames := 1, cells := 0, slots := 0, locals := 14 } : Room).cells ({ frames := 1, cells := 0, slots := 0, locals := 14 } : Room).slots) := by
  have K' := K
  obtain ⟨S0, E0, S1, E1, S2, E2, S3, E3, S4, E4, S5, E5, S6, E6, S7, E7, S8, E8, S9, E9, S10, E10, S11, E11, S12, E12, S13, E13, F0, F1, F2, F3, F4⟩ := K'
  have ne_11_12 : ¬ (c11 = c12) := (Fld.ne F2 F3 (fun q => absurd (Value.int.inj q) (by decide)))
  refine MetFree.of_bodySF (plainFor_of_name own_pn2) hisR ?_
  intro p e s m args below meth c s₁ Bd hml0 hP hK
  obtain ⟨rfl, hZ, hh⟩ := hP
  have hx := Bd.exec
  have hby := Bd.bytes
  have hml : c.maxLocals = 1 := hml0
  have hown : s.vm.findClass "com/example/midpoint/midpoint/rounding/Mode" = some m.cls := findClass_of_methodNamed Bd.named
  have X0 : Stand p l e ({ frames := 1, cells := 0, slots := 0, locals := 14 } : Room) s m #[(.ref c8)] below meth c s₁ [] 0 0 := Stand.of_body Bd
  have e0 : s₁.heap = h0 := by rw [← hh, Bd.state]; rfl
  have N0 := Fr.nil n0
  have pre0 : ∀ t, Steps p.tables e below (s₁.setTop (mkF m 0 #[.val (.ref c8)] [])) t → Steps p.tables e below (s₁.setTop (entryFrame m #[(.ref c8)] 1)) t := fun t k => castTop (own_ef2 m c8) k
  obtain ⟨cq1, kq1, q1a, q1b, q1c⟩ := isOf hZ e0 E8
  obtain ⟨_, _, ⟨T1, L1, k1, n1⟩, -, X1, ⟨Lc1, hQ1, l1, y1, z1⟩, st1⟩ := X0.virtualBack hx (y := (⟨"com/example/midpoint/midpoint/rounding/Mode", "onMagnitude", "(Z)Ljava/math/RoundingMode;"⟩ : MethodName)) (z := (⟨"com/example/midpoint/midpoint/rounding/Mode$6", "onMagnitude", "(Z)Ljava/math/RoundingMode;"⟩ : MethodName)) hown (mvT hZ (hw _ (List.mem_of_getElem? (i := 13) rfl))) (mvT hZ (hw _ (List.mem_of_getElem? (i := 14) rfl))) (own_nf (args := #[]) (D := "com/example/midpoint/midpoint/rounding/Mode$1") (n := "isSymmetric") (d := "()Z") (mvT hZ (hw _ (List.mem_of_getElem? (i := 11) rfl))) (mvT hZ (hw _ (List.mem_of_getElem? (i := 9) rfl)))) (mvT hZ (hw _ (List.mem_of_getElem? (i := 83) rfl))) (mvT hZ (hw _ (List.mem_of_getElem? (i := 84) rfl))) (by decide) (backOf (W := 0) (own_r11_0 l Z a0 hw [] c0 c1 c2 c3 c4 c5 c6 c7 c8 c9 c10 c11 c12 c13 h0 n0 Z0 K) hZ (hw _ (List.mem_of_getElem? (i := 86) rfl)) (hw _ (List.mem_of_getElem? (i := 85) rfl)) (by decide) (by decide)) q1a q1c (g := (mkF m 2 #[.val (.ref c8)] [(.int (0 : Int32)), (.ref c8)])) rfl (by rw [hml]; rfl) (Steps.refl _) (argsL := [(.int (0 : Int32))]) (rest := []) (lenOf own_pd1 rfl) rfl (by show 2 * 0 + _ ≤ _; exact Nat.le_of_eq rfl) (hb hby own_d2_2) (fun _ _ => ⟨rfl, e0, (by decide : 0 + 0 ≤ _), (by decide : 0 + 0 ≤ _)⟩)
  dsimp only [Pt.U, Pt.locs, Pt.cells, Pt.slots] at X1 l1 y1 z1 st1 hQ1
  subst l1 y1 z1
  obtain ⟨rfl, N1q, e1⟩ := hQ1
  have N1 := Fr.app N0 N1q
  obtain ⟨cq2, kq2, q2a, q2b, q2c⟩ := isOf hZ e1 E8
  obtain ⟨_, _, ⟨T2, L2, k2, n2⟩, -, X2, ⟨Lc2, hQ2, l2, y2, z2⟩, st2⟩ := X1.virtualBack hx (y := (⟨"com/example/midpoint/midpoint/rounding/Mode", "onMagnitude", "(Z)Ljava/math/RoundingMode;"⟩ : MethodName)) (z := (⟨"com/example/midpoint/midpoint/rounding/Mode$6", "onMagnitude", "(Z)Ljava/math/RoundingMode;"⟩ : MethodName)) hown (mvT hZ (hw _ (List.mem_of_getElem? (i := 13) rfl))) (mvT hZ (hw _ (List.mem_of_getElem? (i := 14) rfl))) (own_nf (args := #[]) (D := "com/example/midpoint/midpoint/rounding/Mode$1") (n := "isSymmetric") (d := "()Z") (mvT hZ (hw _ (List.mem_of_getElem? (i := 11) rfl))) (mvT hZ (hw _ (List.mem_of_getElem? (i := 9) rfl)))) (mvT hZ (hw _ (List.mem_of_getElem? (i := 83) rfl))) (mvT hZ (hw _ (List.mem_of_getElem? (i := 84) rfl))) (by decide) (backOf (W := 1) (own_r11_1 l Z a0 hw [] c0 c1 c2 c3 c4 c5 c6 c7 c8 c9 c10 c11 c12 c13 h0 n0 Z0 K) hZ (hw _ (List.mem_of_getElem? (i := 86) rfl)) (hw _ (List.mem_of_getElem? (i := 85) rfl)) (by decide) (by decide)) q2a q2c (g := (mkF m 7 #[.val (.ref c8)] [(.int (1 : Int32)), (.ref c8), (.ref c11)])) rfl (by rw [hml]; rfl) (Steps.refl _) (argsL := [(.int (1 : Int32))]) (rest := [(.ref c11)]) (lenOf own_pd1 rfl) rfl (by show 2 * 0 + _ ≤ _; exact Nat.le_of_eq rfl) (hb hby own_d2_7) (fun _ _ => ⟨rfl, e1, (by decide : 0 + 0 ≤ _), (by decide : 0 + 0 ≤ _)⟩)
  dsimp only [Pt.U, Pt.locs, Pt.cells, Pt.slots] at X2 l2 y2 z2 st2 hQ2
  subst l2 y2 z2
  obtain ⟨rfl, N2q, e2⟩ := hQ2
  have N2 := Fr.app N1 N2q
  obtain ⟨fs, hr, hrun, hended, hW, hsame⟩ := X2.leave (v := some (.int (0 : Int32))) (fun h => by rw [Bd.returns] at h; cases h)
  refine ⟨_, _, pre0 _ ?_, hrun, hended, _, _, rfl, ?_, ⟨_, rfl⟩, hW, hsame.mono (by decide) (by decide)⟩
  · show Steps p.tables e below (s₁.setTop (mkF m 0 #[.val (.ref c8)] [])) _
    refine XS.aloadN X0.here hx rfl (hb hby own_d2_0) rfl rfl ?_
    show Steps p.tables e below (s₁.setTop (mkF m 1 #[.val (.ref c8)] [(.ref c8)])) _
    refine XS.iconst X0.here hx rfl (hb hby own_d2_1) ?_
    show Steps p.tables e below (s₁.setTop (mkF m 2 #[.val (.ref c8)] [(.int (0 : Int32)), (.ref c8)])) _
    refine st1.trans ?_
    show Steps p.tables e below (T1.setTop (mkF m 5 #[.val (.ref c8)] [(.ref c11)])) _
    refine XS.aloadN X1.here hx rfl (hb hby own_d2_5) rfl rfl ?_
    show Steps p.tables e below (T1.setTop (mkF m 6 #[.val (.ref c8)] [(.ref c8), (.ref c11)])) _
    refine XS.iconst X1.here hx rfl (hb hby own_d2_6) ?_
    show Steps p.tables e below (T1.setTop (mkF m 7 #[.val (.ref c8)] [(.int (1 : Int32)), (.ref c8), (.ref c11)])) _
    refine st2.trans ?_
    show Steps p.tables e below (T2.setTop (mkF m 10 #[.val (.ref c8)] [(.ref c12), (.ref c11)])) _
    refine Jvm.RoadKit.acmp (g := (mkF m 10 #[.val (.ref c8)] [(.ref c12), (.ref c11)])) X2 hx rfl rfl rfl (pc0 := 10) (pc' := 17) (same := false) rfl (hb hby own_d2_10) rfl (decide_eq_false fun q => ne_11_12 (Value.ref.inj q)) (by decide) (by decide) ?_
    show Steps p.tables e below (T2.setTop (mkF m 17 #[.val (.ref c8)] [])) _
    refine XS.iconst X2.here hx rfl (hb hby own_d2_17) ?_
    show Steps p.tables e below (T2.setTop (mkF m 18 #[.val (.ref c8)] [(.int (0 : Int32))])) _
    exact retN X2 hx (t := .boolean) Bd.returns (by simp) (hb hby own_d2_18) hr
  · show own_Q _ h0 n0 _ T2.heap _
    exact ⟨rfl, N2, e2⟩
set_option maxRecDepth 65536 in
set_option maxHeartbeats 40000000 in
theorem own_r0_5 (l : Launch) (Z : State) (a0 : Array Value) (hw : ∀ d ∈ tables_1, d.before a0 Z = true) (ws : List Jvm.Cond) (p0 : Int32) (c0 c1 c2 c3 c4 c5 c6 c7 c8 c9 c10 c11 c12 c13 : Addr) (h0 : Heap) (n0 : Nat) (Z0 : n0 ≤ h0.size) (K : own_W Z h0 c0 c1 c2 c3 c4 c5 c6 c7 c8 c9 c10 c11 c12 c13) (hk0 : ((p0 &&& (2147483647 : Int32)) % (9 : Int32)) = (5 : Int32)) :
    MetFree l x (head1 (Jvm.Cond.code x code maxLocals ret :: ws) room_1) (fun a U => a = #[(.int p0)] ∧ Z.Warmed39 U.vm ∧ U.heap = h0) (fun _ _ _ _ _ => True) (fun _ U o U' => ∃ v L, o = .returned v ∧ own_Q (.int (1 : Int32)) h0 n0 v U'.heap L ∧ FrameEnd U o U' L room_1.cells room_1.slots) := by
  have K' := K
  obtain ⟨S0, E0, S1, E1, S2, E2, S3, E3, S4, E4, S5, E5, S6, E6, S7, E7, S8, E8, S9, E9, S10, E10, S11, E11, S12, E12, S13, E13, F0, F1, F2, F3, F4⟩ := K'
  refine MetFree.of_bodySF (plainFor_of_name own_pn0) hisR ?_
  intro p e s m args below meth c s₁ Bd hml0 hP hK
  obtain ⟨rfl, hZ, hh⟩ := hP
  have hx := Bd.exec
  have hby := Bd.bytes
  have hml : c.maxLocals = 4 := hml0
  have hown : s.vm.findClass "com/example/midpoint/midpoint/rounding/ModeIsSymmetricPinLaw" = some m.cls := findClass_of_methodNamed Bd.named
  have X0 : Stand p l e room_1 s m #[(.int p0)] below meth c s₁ [] 0 0 := Stand.of_body Bd
  have e0 : s₁.heap = h0 := by rw [← hh, Bd.state]; rfl
  have N0 := Fr.nil n0
  have pre0 : ∀ t, Steps p.tables e below (s₁.setTop (mkF m 0 #[.val (.int p0), .unset, .unset, .unset] [])) t → Steps p.tables e below (s₁.setTop (entryFrame m #[(.int p0)] maxLocals)) t := fun t k => castTop (own_ef0 m p0) k
  obtain ⟨_, _, ⟨T1, L1, k1, n1⟩, -, X1, ⟨Lc1, hQ1, l1, y1, z1⟩, st1⟩ := Jvm.LawKit.callS X0 hx (y := (⟨"com/example/midpoint/midpoint/rounding/ModeIsSymmetricPinLaw", "modeAt", "(I)Lcom/example/midpoint/midpoint/rounding/Mode;"⟩ : MethodName)) hown (mvT hZ (hw _ (List.mem_of_getElem? (i := 1) rfl))) (mvT hZ (hw _ (List.mem_of_getElem? (i := 2) rfl))) (mvT hZ (hw _ (List.mem_of_getElem? (i := 3) rfl))) (mvT hZ (hw _ (List.mem_of_getElem? (i := 4) rfl))) (by decide) (backOf (W := 0) (own_r1_5 l Z a0 hw [] c0 c1 c2 c3 c4 c5 c6 c7 c8 c9 c10 c11 c12 c13 h0 n0 Z0 K) hZ (hw _ (List.mem_of_getElem? (i := 4) rfl)) (hw _ (List.mem_of_getElem? (i := 3) rfl)) (by decide) (by decide)) (g := (mkF m 9 #[.val (.int p0), .val (.int (5 : Int32)), .unset, .unset] [(.int (5 : Int32))])) rfl (by rw [hml]; rfl) (argsL := [(.int (5 : Int32))]) (rest := []) (lenOf own_pd0 rfl) rfl (by show 2 * 0 + _ ≤ _; exact Nat.le_of_eq rfl) (hb hby at_9) (fun _ _ => ⟨rfl, e0, (by decide : 0 + 0 ≤ _), (by decide : 0 + 0 ≤ _)⟩)
  dsimp only [Pt.U, Pt.locs, Pt.cells, Pt.slots] at X1 l1 y1 z1 st1 hQ1
  subst l1 y1 z1
  obtain ⟨rfl, N1q, e1⟩ := hQ1
  have N1 := Fr.app N0 N1q
  obtain ⟨cq2, kq2, q2a, q2b, q2c⟩ := isOf hZ e1 E8
  obtain ⟨_, _, ⟨T2, L2, k2, n2⟩, -, X2, ⟨Lc2, hQ2, l2, y2, z2⟩, st2⟩ := X1.virtualBack hx (y := (⟨"com/example/midpoint/midpoint/rounding/Mode", "isSymmetric", "()Z"⟩ : MethodName)) (z := (⟨"com/example/midpoint/midpoint/rounding/Mode", "isSymmetric", "()Z"⟩ : MethodName)) hown (mvT hZ (hw _ (List.mem_of_getElem? (i := 8) rfl))) (mvT hZ (hw _ (List.mem_of_getElem? (i := 9) rfl))) (notFace_of_selects (args := #[]) (mvT hZ (hw _ (List.mem_of_getElem? (i := 82) rfl)))) (mvT hZ (hw _ (List.mem_of_getElem? (i := 82) rfl))) (mvT hZ (hw _ (List.mem_of_getElem? (i := 10) rfl))) (by decide) (backOf (W := 0) (own_r2_5 l Z a0 hw [] c0 c1 c2 c3 c4 c5 c6 c7 c8 c9 c10 c11 c12 c13 h0 n0 Z0 K) hZ (hw _ (List.mem_of_getElem? (i := 12) rfl)) (hw _ (List.mem_of_getElem? (i := 6) rfl)) (by decide) (by decide)) q2a q2c (g := (mkF m 48 #[.val (.int p0), .val (.int (5 : Int32)), .val (.ref c8), .val (.int (0 : Int32))] [(.ref c8)])) rfl (by rw [hml]; rfl) (Steps.refl _) (argsL := []) (rest := []) (lenOf own_pd2 rfl) rfl (by show 2 * 0 + _ ≤ _; exact Nat.le_of_eq rfl) (hb hby at_48) (fun _ _ => ⟨rfl, e1, (by decide : 0 + 0 ≤ _), (by decide : 0 + 0 ≤ _)⟩)
  dsimp only [Pt.U, Pt.locs, Pt.cells, Pt.slots] at X2 l2 y2 z2 st2 hQ2
  subst l2 y2 z2
  obtain ⟨rfl, N2q, e2⟩ := hQ2
  have N2 := Fr.app N1 N2q
  obtain ⟨fs, hr, hrun, hended, hW, hsame⟩ := X2.leave (v := some (.int (1 : Int32))) (fun h => by rw [Bd.returns] at h; cases h)
  refine ⟨_, _, pre0 _ ?_, hrun, hended, _, _, rfl, ?_, ⟨_, rfl⟩, hW, hsame.mono (by decide) (by decide)⟩
  · show Steps p.tables e below (s₁.setTop (mkF m 0 #[.val (.int p0), .unset, .unset, .unset] [])) _
    refine XS.iloadN X0.here hx rfl (hb hby at_0) rfl ?_
    show Steps p.tables e below (s₁.setTop (mkF m 1 #[.val (.int p0), .unset, .unset, .unset] [(.int p0)])) _
    refine X0.ldcInt hx hown (mvT hZ (hw _ (List.mem_of_getElem? (i := 0) rfl))) (g := (mkF m 1 #[.val (.int p0), .unset, .unset, .unset] [(.int p0)])) rfl (hb hby at_1) _ ?_
    show Steps p.tables e below (s₁.setTop (mkF m 3 #[.val (.int p0), .unset, .unset, .unset] [(.int (2147483647 : Int32)), (.int p0)])) _
    refine XS.iand X0.here hx rfl (hb hby at_3) rfl ?_
    show Steps p.tables e below (s₁.setTop (mkF m 4 #[.val (.int p0), .unset, .unset, .unset] [(.int (p0 &&& (2147483647 : Int32)))])) _
    refine XS.bipush X0.here hx rfl (hb hby at_4) ?_
    show Steps p.tables e below (s₁.setTop (mkF m 6 #[.val (.int p0), .unset, .unset, .unset] [(.int (9 : Int32)), (.int (p0 &&& (2147483647 : Int32)))])) _
    refine iremM X0 hx rfl (hb hby at_6) rfl (by decide) ?_
    show Steps p.tables e below (s₁.setTop (mkF m 7 #[.val (.int p0), .unset, .unset, .unset] [(.int ((p0 &&& (2147483647 : Int32)) % (9 : Int32)))])) _
    rw [hk0]
    show Steps p.tables e below (s₁.setTop (mkF m 7 #[.val (.int p0), .unset, .unset, .unset] [(.int (5 : Int32))])) _
    refine XS.istoreN X0.here hx rfl (hb hby at_7) rfl (l' := #[.val (.int p0), .val (.int (5 : Int32)), .unset, .unset]) rfl ?_
    show Steps p.tables e below (s₁.setTop (mkF m 8 #[.val (.int p0), .val (.int (5 : Int32)), .unset, .unset] [])) _
    refine XS.iloadN X0.here hx rfl (hb hby at_8) rfl ?_
    show Steps p.tables e below (s₁.setTop (mkF m 9 #[.val (.int p0), .val (.int (5 : Int32)), .unset, .unset] [(.int (5 : Int32))])) _
    refine st1 _ ?_
    show Steps p.tables e below (T1.setTop (mkF m 12 #[.val (.int p0), .val (.int (5 : Int32)), .unset, .unset] [(.ref c8)])) _
    refine XS.astoreN X1.here hx rfl (hb hby at_12) rfl rfl (l' := #[.val (.int p0), .val (.int (5 : Int32)), .val (.ref c8), .unset]) rfl ?_
    show Steps p.tables e below (T1.setTop (mkF m 13 #[.val (.int p0), .val (.int (5 : Int32)), .val (.ref c8), .unset] [])) _
    refine XS.iloadN X1.here hx rfl (hb hby at_13) rfl ?_
    show Steps p.tables e below (T1.setTop (mkF m 14 #[.val (.int p0), .val (.int (5 : Int32)), .val (.ref c8), .unset] [(.int (5 : Int32))])) _
    refine XS.iconst X1.here hx rfl (hb hby at_14) ?_
    show Steps p.tables e below (T1.setTop (mkF m 15 #[.val (.int p0), .val (.int (5 : Int32)), .val (.ref c8), .unset] [(.int (2 : Int32)), (.int (5 : Int32))])) _
    refine XS.icmpNo X1.here hx rfl (hb hby at_15) rfl (feq (by decide : ¬ ((5 : Int32) = (2 : Int32)))).1 ?_
    show Steps p.tables e below (T1.setTop (mkF m 18 #[.val (.int p0), .val (.int (5 : Int32)), .val (.ref c8), .unset] [])) _
    refine XS.iloadN X1.here hx rfl (hb hby at_18) rfl ?_
    show Steps p.tables e below (T1.setTop (mkF m 19 #[.val (.int p0), .val (.int (5 : Int32)), .val (.ref c8), .unset] [(.int (5 : Int32))])) _
    refine XS.iconst X1.here hx rfl (hb hby at_19) ?_
    show Steps p.tables e below (T1.setTop (mkF m 20 #[.val (.int p0), .val (.int (5 : Int32)), .val (.ref c8), .unset] [(.int (3 : Int32)), (.int (5 : Int32))])) _
    refine XS.icmpNo X1.here hx rfl (hb hby at_20) rfl (feq (by decide : ¬ ((5 : Int32) = (3 : Int32)))).1 ?_
    show Steps p.tables e below (T1.setTop (mkF m 23 #[.val (.int p0), .val (.int (5 : Int32)), .val (.ref c8), .unset] [])) _
    refine XS.iloadN X1.here hx rfl (hb hby at_23) rfl ?_
    show Steps p.tables e below (T1.setTop (mkF m 24 #[.val (.int p0), .val (.int (5 : Int32)), .val (.ref c8), .unset] [(.int (5 : Int32))])) _
    refine XS.bipush X1.here hx rfl (hb hby at_24) ?_
    show Steps p.tables e below (T1.setTop (mkF m 26 #[.val (.int p0), .val (.int (5 : Int32)), .val (.ref c8), .unset] [(.int (6 : Int32)), (.int (5 : Int32))])) _
    refine XS.icmpNo X1.here hx rfl (hb hby at_26) rfl (feq (by decide : ¬ ((5 : Int32) = (6 : Int32)))).1 ?_
    show Steps p.tables e below (T1.setTop (mkF m 29 #[.val (.int p0), .val (.int (5 : Int32)), .val (.ref c8), .unset] [])) _
    refine XS.iloadN X1.here hx rfl (hb hby at_29) rfl ?_
    show Steps p.tables e below (T1.setTop (mkF m 30 #[.val (.int p0), .val (.int (5 : Int32)), .val (.ref c8), .unset] [(.int (5 : Int32))])) _
    refine XS.bipush X1.here hx rfl (hb hby at_30) ?_
    show Steps p.tables e below (T1.setTop (mkF m 32 #[.val (.int p0), .val (.int (5 : Int32)), .val (.ref c8), .unset] [(.int (7 : Int32)), (.int (5 : Int32))])) _
    refine XS.icmpNo X1.here hx rfl (hb hby at_32) rfl (feq (by decide : ¬ ((5 : Int32) = (7 : Int32)))).1 ?_
    show Steps p.tables e below (T1.setTop (mkF m 35 #[.val (.int p0), .val (.int (5 : Int32)), .val (.ref c8), .unset] [])) _
    refine XS.iloadN X1.here hx rfl (hb hby at_35) rfl ?_
    show Steps p.tables e below (T1.setTop (mkF m 36 #[.val (.int p0), .val (.int (5 : Int32)), .val (.ref c8), .unset] [(.int (5 : Int32))])) _
    refine XS.bipush X1.here hx rfl (hb hby at_36) ?_
    show Steps p.tables e below (T1.setTop (mkF m 38 #[.val (.int p0), .val (.int (5 : Int32)), .val (.ref c8), .unset] [(.int (8 : Int32)), (.int (5 : Int32))])) _
    refine XS.icmpYes X1.here hx rfl (pc0 := 38) (pc' := 45) rfl (hb hby at_38) rfl (feq (by decide : ¬ ((5 : Int32) = (8 : Int32)))).2 (by decide) (by decide) ?_
    show Steps p.tables e below (T1.setTop (mkF m 45 #[.val (.int p0), .val (.int (5 : Int32)), .val (.ref c8), .unset] [])) _
    refine XS.iconst X1.here hx rfl (hb hby at_45) ?_
    show Steps p.tables e below (T1.setTop (mkF m 46 #[.val (.int p0), .val (.int (5 : Int32)), .val (.ref c8), .unset] [(.int (0 : Int32))])) _
    refine XS.istoreN X1.here hx rfl (hb hby at_46) rfl (l' := #[.val (.int p0), .val (.int (5 : Int32)), .val (.ref c8), .val (.int (0 : Int32))]) rfl ?_
    show Steps p.tables e below (T1.setTop (mkF m 47 #[.val (.int p0), .val (.int (5 : Int32)), .val (.ref c8), .val (.int (0 : Int32))] [])) _
    refine XS.aloadN X1.here hx rfl (hb hby at_47) rfl rfl ?_
    show Steps p.tables e below (T1.setTop (mkF m 48 #[.val (.int p0), .val (.int (5 : Int32)), .val (.ref c8), .val (.int (0 : Int32))] [(.ref c8)])) _
    refine st2.trans ?_
    show Steps p.tables e below (T2.setTop (mkF m 51 #[.val (.int p0), .val (.int (5 : Int32)), .val (.ref c8), .val (.int (0 : Int32))] [(.int (0 : Int32))])) _
    refine XS.iloadN X2.here hx rfl (hb hby at_51) rfl ?_
    show Steps p.tables e below (T2.setTop (mkF m 52 #[.val (.int p0), .val (.int (5 : Int32)), .val (.ref c8), .val (.int (0 : Int32))] [(.int (0 : Int32)), (.int (0 : Int32))])) _
    refine XS.icmpNo X2.here hx rfl (hb hby at_52) rfl (teq (by decide : (0 : Int32) = (0 : Int32))).2 ?_
    show Steps p.tables e below (T2.setTop (mkF m 55 #[.val (.int p0), .val (.int (5 : Int32)), .val (.ref c8), .val (.int (0 : Int32))] [])) _
    refine XS.iconst X2.here hx rfl (hb hby at_55) ?_
    show Steps p.tables e below (T2.setTop (mkF m 56 #[.val (.int p0), .val (.int (5 : Int32)), .val (.ref c8), .val (.int (0 : Int32))] [(.int (1 : Int32))])) _
    refine XS.goto X2.here hx rfl (pc0 := 56) (pc' := 60) rfl (hb hby at_56) (by decide) (by decide) ?_
    show Steps p.tables e below (T2.setTop (mkF m 60 #[.val (.int p0), .val (.int (5 : Int32)), .val (.ref c8), .val (.int (0 : Int32))] [(.int (1 : Int32))])) _
    exact retN X2 hx (t := .boolean) Bd.returns (by simp) (hb hby at_60) hr
  · show own_Q _ h0 n0 _ T2.heap _
    exact ⟨rfl, N2, e2⟩
theorem own_d1_53 : decode method_3_code 53 = .ok (.iload_n 0, 1) := by decide +kernel
theorem own_d1_54 : decode method_3_code 54 = .ok (.bipush 6, 2) := by decide +kernel
theorem own_d1_56 : decode method_3_code 56 = .ok (.if_icmp .ne 7, 3) := by decide +kernel
theorem own_d1_59 : decode method_3_code 59 = .ok (.getstatic 39, 3) := by decide +kernel
theorem own_d1_62 : decode method_3_code 62 = .ok (.areturn, 1) := by decide +kernel
set_option maxRecDepth 65536 in
set_option maxHeartbeats 40000000 in
theorem own_r1_6 (l : Launch) (Z : State) (a0 : Array Value) (hw : ∀ d ∈ tables_1, d.before a0 Z = true) (ws : List Jvm.Cond)  (c0 c1 c2 c3 c4 c5 c6 c7 c8 c9 c10 c11 c12 c13 : Addr) (h0 : Heap) (n0 : Nat) (Z0 : n0 ≤ h0.size) (K : own_W Z h0 c0 c1 c2 c3 c4 c5 c6 c7 c8 c9 c10 c11 c12 c13)  :
    MetFree l (⟨"com/example/midpoint/midpoint/rounding/ModeIsSymmetricPinLaw", "modeAt", "(I)Lcom/example/midpoint/midpoint/rounding/Mode;"⟩ : MethodName) (head1 (Jvm.Cond.code (⟨"com/example/midpoint/midpoint/rounding/ModeIsSymmetricPinLaw", "modeAt", "(I)Lcom/example/midpoint/midpoint/rounding/Mode;"⟩ : MethodName) method_3_code 1 (some (.object "com/example/midpoint/midpoint/rounding/Mode")) :: ws) ({ frames := 0, cells := 0, slots := 0, locals := 0 } : Room)) (fun a U => a = #[(.int (6 : Int32))] ∧ Z.Warmed39 U.vm ∧ U.heap = h0) (fun _ _ _ _ _ => True) (fun _ U o U' => ∃ v L, o = .returned v ∧ own_Q (.ref c7) h0 n0 v U'.heap L ∧ FrameEnd U o U' L ({ frames := 0, cells := 0, slots := 0, locals := 0 } : Room).cells ({ frames := 0, cells := 0, slots := 0, locals := 0 } : Room).slots) := by
  have K' := K
  obtain ⟨S0, E0, S1, E1, S2, E2, S3, E3, S4, E4, S5, E5, S6, E6, S7, E7, S8, E8, S9, E9, S10, E10, S11, E11, S12, E12, S13, E13, F0, F1, F2, F3, F4⟩ := K'
  refine MetFree.of_bodySF (plainFor_of_name own_pn0) hisR ?_
  intro p e s m args below meth c s₁ Bd hml0 hP hK
  obtain ⟨rfl, hZ, hh⟩ := hP
  have hx := Bd.exec
  have hby := Bd.bytes
  have hml : c.maxLocals = 1 := hml0
  have hown : s.vm.findClass "com/example/midpoint/midpoint/rounding/ModeIsSymmetricPinLaw" = some m.cls := findClass_of_methodNamed Bd.named
  have X0 : Stand p l e ({ frames := 0, cells := 0, slots := 0, locals := 0 } : Room) s m #[(.int (6 : Int32))] below meth c s₁ [] 0 0 := Stand.of_body Bd
  have e0 : s₁.heap = h0 := by rw [← hh, Bd.state]; rfl
  have N0 := Fr.nil n0
  have pre0 : ∀ t, Steps p.tables e below (s₁.setTop (mkF m 0 #[.val (.int (6 : Int32))] [])) t → Steps p.tables e below (s₁.setTop (entryFrame m #[(.int (6 : Int32))] 1)) t := fun t k => castTop (own_ef1 m (6 : Int32)) k
  obtain ⟨T1, X1, e1, st1⟩ := getS2 X0 hx hZ hown (host := "") (Or.inl (hw _ (List.mem_of_getElem? (i := 72) rfl))) Via.refl e0 S7 (g := (mkF m 59 #[.val (.int (6 : Int32))] [])) rfl (hb hby own_d1_59)
  obtain ⟨fs, hr, hrun, hended, hW, hsame⟩ := X1.leave (v := some (.ref c7)) (fun h => by rw [Bd.returns] at h; cases h)
  refine ⟨_, _, pre0 _ ?_, hrun, hended, _, _, rfl, ?_, ⟨_, rfl⟩, hW, hsame.mono (by decide) (by decide)⟩
  · show Steps p.tables e below (s₁.setTop (mkF m 0 #[.val (.int (6 : Int32))] [])) _
    refine XS.iloadN X0.here hx rfl (hb hby own_d1_0) rfl ?_
    show Steps p.tables e below (s₁.setTop (mkF m 1 #[.val (.int (6 : Int32))] [(.int (6 : Int32))])) _
    refine XS.ifYes X0.here hx rfl (pc0 := 1) (pc' := 8) rfl (hb hby own_d1_1) rfl ((if0 _ _).trans (feq (by decide : ¬ ((6 : Int32) = (0 : Int32)))).2) (by decide) (by decide) ?_
    show Steps p.tables e below (s₁.setTop (mkF m 8 #[.val (.int (6 : Int32))] [])) _
    refine XS.iloadN X0.here hx rfl (hb hby own_d1_8) rfl ?_
    show Steps p.tables e below (s₁.setTop (mkF m 9 #[.val (.int (6 : Int32))] [(.int (6 : Int32))])) _
    refine XS.iconst X0.here hx rfl (hb hby own_d1_9) ?_
    show Steps p.tables e below (s₁.setTop (mkF m 10 #[.val (.int (6 : Int32))] [(.int (1 : Int32)), (.int (6 : Int32))])) _
    refine XS.icmpYes X0.here hx rfl (pc0 := 10) (pc' := 17) rfl (hb hby own_d1_10) rfl (feq (by decide : ¬ ((6 : Int32) = (1 : Int32)))).2 (by decide) (by decide) ?_
    show Steps p.tables e below (s₁.setTop (mkF m 17 #[.val (.int (6 : Int32))] [])) _
    refine XS.iloadN X0.here hx rfl (hb hby own_d1_17) rfl ?_
    show Steps p.tables e below (s₁.setTop (mkF m 18 #[.val (.int (6 : Int32))] [(.int (6 : Int32))])) _
    refine XS.iconst X0.here hx rfl (hb hby own_d1_18) ?_
    show Steps p.tables e below (s₁.setTop (mkF m 19 #[.val (.int (6 : Int32))] [(.int (2 : Int32)), (.int (6 : Int32))])) _
    refine XS.icmpYes X0.here hx rfl (pc0 := 19) (pc' := 26) rfl (hb hby own_d1_19) rfl (feq (by decide : ¬ ((6 : Int32) = (2 : Int32)))).2 (by decide) (by decide) ?_
    show Steps p.tables e below (s₁.setTop (mkF m 26 #[.val (.int (6 : Int32))] [])) _
    refine XS.iloadN X0.here hx rfl (hb hby own_d1_26) rfl ?_
    show Steps p.tables e below (s₁.setTop (mkF m 27 #[.val (.int (6 : Int32))] [(.int (6 : Int32))])) _
    refine XS.iconst X0.here hx rfl (hb hby own_d1_27) ?_
    show Steps p.tables e below (s₁.setTop (mkF m 28 #[.val (.int (6 : Int32))] [(.int (3 : Int32)), (.int (6 : Int32))])) _
    refine XS.icmpYes X0.here hx rfl (pc0 := 28) (pc' := 35) rfl (hb hby own_d1_28) rfl (feq (by decide : ¬ ((6 : Int32) = (3 : Int32)))).2 (by decide) (by decide) ?_
    show Steps p.tables e below (s₁.setTop (mkF m 35 #[.val (.int (6 : Int32))] [])) _
    refine XS.iloadN X0.here hx rfl (hb hby own_d1_35) rfl ?_
    show Steps p.tables e below (s₁.setTop (mkF m 36 #[.val (.int (6 : Int32))] [(.int (6 : Int32))])) _
    refine XS.iconst X0.here hx rfl (hb hby own_d1_36) ?_
    show Steps p.tables e below (s₁.setTop (mkF m 37 #[.val (.int (6 : Int32))] [(.int (4 : Int32)), (.int (6 : Int32))])) _
    refine XS.icmpYes X0.here hx rfl (pc0 := 37) (pc' := 44) rfl (hb hby own_d1_37) rfl (feq (by decide : ¬ ((6 : Int32) = (4 : Int32)))).2 (by decide) (by decide) ?_
    show Steps p.tables e below (s₁.setTop (mkF m 44 #[.val (.int (6 : Int32))] [])) _
    refine XS.iloadN X0.here hx rfl (hb hby own_d1_44) rfl ?_
    show Steps p.tables e below (s₁.setTop (mkF m 45 #[.val (.int (6 : Int32))] [(.int (6 : Int32))])) _
    refine XS.iconst X0.here hx rfl (hb hby own_d1_45) ?_
    show Steps p.tables e below (s₁.setTop (mkF m 46 #[.val (.int (6 : Int32))] [(.int (5 : Int32)), (.int (6 : Int32))])) _
    refine XS.icmpYes X0.here hx rfl (pc0 := 46) (pc' := 53) rfl (hb hby own_d1_46) rfl (feq (by decide : ¬ ((6 : Int32) = (5 : Int32)))).2 (by decide) (by decide) ?_
    show Steps p.tables e below (s₁.setTop (mkF m 53 #[.val (.int (6 : Int32))] [])) _
    refine XS.iloadN X0.here hx rfl (hb hby own_d1_53) rfl ?_
    show Steps p.tables e below (s₁.setTop (mkF m 54 #[.val (.int (6 : Int32))] [(.int (6 : Int32))])) _
    refine XS.bipush X0.here hx rfl (hb hby own_d1_54) ?_
    show Steps p.tables e below (s₁.setTop (mkF m 56 #[.val (.int (6 : Int32))] [(.int (6 : Int32)), (.int (6 : Int32))])) _
    refine XS.icmpNo X0.here hx rfl (hb hby own_d1_56) rfl (teq (by decide : (6 : Int32) = (6 : Int32))).2 ?_
    show Steps p.tables e below (s₁.setTop (mkF m 59 #[.val (.int (6 : Int32))] [])) _
    refine st1 _ ?_
    show Steps p.tables e below (T1.setTop (mkF m 62 #[.val (.int (6 : Int32))] [(.ref c7)])) _
    jvm_step X1.here [X1.here.top, hx, (hb hby own_d1_62), X1.method', Bd.returns, Value.isRef, FieldType.isReference]
    first | (intro acts; rw [hr _ acts rfl rfl rfl]) | rw [hr _ _ rfl rfl rfl]
    exact Steps.refl _
  · show own_Q _ h0 n0 _ T1.heap _
    exact ⟨rfl, N0, e1⟩
theorem own_d10_0 : decode prog_26_method_2_code 0 = .ok (.getstatic 7, 3) := by decide +kernel
theorem own_d10_3 : decode prog_26_method_2_code 3 = .ok (.areturn, 1) := by decide +kernel
theorem own_pn8 : plainName "com/example/midpoint/midpoint/rounding/Mode$7" = true := by first | (simp [plainName, overriddenIn]; done) | decide +kernel
theorem own_ef10 (m : MethodId) (x0 : Addr) (x1 : Int32) : entryFrame m #[(.ref x0), (.int x1)] 2 = mkF m 0 #[.val (.ref x0), .val (.int x1)] [] := by first | (simp [entryFrame, mkF, argsToLocals, Value.category]; done) | rfl
set_option maxRecDepth 65536 in
set_option maxHeartbeats 40000000 in
theorem own_r10_0 (l : Launch) (Z : State) (a0 : Array Value) (hw : ∀ d ∈ tables_1, d.before a0 Z = true) (ws : List Jvm.Cond)  (c0 c1 c2 c3 c4 c5 c6 c7 c8 c9 c10 c11 c12 c13 : Addr) (h0 : Heap) (n0 : Nat) (Z0 : n0 ≤ h0.size) (K : own_W Z h0 c0 c1 c2 c3 c4 c5 c6 c7 c8 c9 c10 c11 c12 c13)  :
    MetFree l (⟨"com/example/midpoint/midpoint/rounding/Mode$7", "onMagnitude", "(Z)Ljava/math/RoundingMode;"⟩ : MethodName) (head1 (Jvm.Cond.code (⟨"com/example/midpoint/midpoint/rounding/Mode$7", "onMagnitude", "(Z)Ljava/math/RoundingMode;"⟩ : MethodName) prog_26_method_2_code 2 (some (.object "java/math/RoundingMode")) :: ws) ({ frames := 0, cells := 0, slots := 0, locals := 0 } : Room)) (fun a U => a = #[(.ref c7), (.int (0 : Int32))] ∧ Z.Warmed39 U.vm ∧ U.heap = h0) (fun _ _ _ _ _ => True) (fun _ U o U' => ∃ v L, o = .returned v ∧ own_Q (.ref c12) h0 n0 v U'.heap L ∧ FrameEnd U o U' L ({ frames := 0, cells := 0, slots := 0, locals := 0 } : Room).cells ({ frames := 0, cells := 0, slots := 0, locals := 0 } : Room).slots) := by
  have K' := K
  obtain ⟨S0, E0, S1, E1, S2, E2, S3, E3, S4, E4, S5, E5, S6, E6, S7, E7, S8, E8, S9, E9, S10, E10, S11, E11, S12, E12, S13, E13, F0, F1, F2, F3, F4⟩ := K'
  refine MetFree.of_bodySF (plainFor_of_name own_pn8) hisR ?_
  intro p e s m args below meth c s₁ Bd hml0 hP hK
  obtain ⟨rfl, hZ, hh⟩ := hP
  have hx := Bd.exec
  have hby := Bd.bytes
  have hml : c.maxLocals = 2 := hml0
  have hown : s.vm.findClass "com/example/midpoint/midpoint/rounding/Mode$7" = some m.cls := findClass_of_methodNamed Bd.named
  have X0 : Stand p l e ({ frames := 0, cells := 0, slots := 0, locals := 0 } : Room) s m #[(.ref c7), (.int (0 : Int32))] below meth c s₁ [] 0 0 := Stand.of_body Bd
  have e0 : s₁.heap = h0 := by rw [← hh, Bd.state]; rfl
  have N0 := Fr.nil n0
  have pre0 : ∀ t, Steps p.tables e below (s₁.setTop (mkF m 0 #[.val (.ref c7), .val (.int (0 : Int32))] [])) t → Steps p.tables e below (s₁.setTop (entryFrame m #[(.ref c7), (.int (0 : Int32))] 2)) t := fun t k => castTop (own_ef10 m c7 (0 : Int32)) k
  obtain ⟨T1, X1, e1, st1⟩ := getS2 X0 hx hZ hown (host := "") (Or.inl (hw _ (List.mem_of_getElem? (i := 79) rfl))) Via.refl e0 S12 (g := (mkF m 0 #[.val (.ref c7), .val (.int (0 : Int32))] [])) rfl (hb hby own_d10_0)
  obtain ⟨fs, hr, hrun, hended, hW, hsame⟩ := X1.leave (v := some (.ref c12)) (fun h => by rw [Bd.returns] at h; cases h)
  refine ⟨_, _, pre0 _ ?_, hrun, hended, _, _, rfl, ?_, ⟨_, rfl⟩, hW, hsame.mono (by decide) (by decide)⟩
  · show Steps p.tables e below (s₁.setTop (mkF m 0 #[.val (.ref c7), .val (.int (0 : Int32))] [])) _
    refine st1 _ ?_
    show Steps p.tables e below (T1.setTop (mkF m 3 #[.val (.ref c7), .val (.int (0 : Int32))] [(.ref c12)])) _
    jvm_step X1.here [X1.here.top, hx, (hb hby own_d10_3), X1.method', Bd.returns, Value.isRef, FieldType.isReference]
    first | (intro acts; rw [hr _ acts rfl rfl rfl]) | rw [hr _ _ rfl rfl rfl]
    exact Steps.refl _
  · show own_Q _ h0 n0 _ T1.heap _
    exact ⟨rfl, N0, e1⟩
set_option maxRecDepth 65536 in
set_option maxHeartbeats 40000000 in
theorem own_r10_1 (l : Launch) (Z : State) (a0 : Array Value) (hw : ∀ d ∈ tables_1, d.before a0 Z = true) (ws : List Jvm.Cond)  (c0 c1 c2 c3 c4 c5 c6 c7 c8 c9 c10 c11 c12 c13 : Addr) (h0 : Heap) (n0 : Nat) (Z0 : n0 ≤ h0.size) (K : own_W Z h0 c0 c1 c2 c3 c4 c5 c6 c7 c8 c9 c10 c11 c12 c13)  :
    MetFree l (⟨"com/example/midpoint/midpoint/rounding/Mode$7", "onMagnitude", "(Z)Ljava/math/RoundingMode;"⟩ : MethodName) (head1 (Jvm.Cond.code (⟨"com/example/midpoint/midpoint/rounding/Mode$7", "onMagnitude", "(Z)Ljava/math/RoundingMode;"⟩ : MethodName) prog_26_method_2_code 2 (some (.object "java/math/RoundingMode")) :: ws) ({ frames := 0, cells := 0, slots := 0, locals := 0 } : Room)) (fun a U => a = #[(.ref c7), (.int (1 : Int32))] ∧ Z.Warmed39 U.vm ∧ U.heap = h0) (fun _ _ _ _ _ => True) (fun _ U o U' => ∃ v L, o = .returned v ∧ own_Q (.ref c12) h0 n0 v U'.heap L ∧ FrameEnd U o U' L ({ frames := 0, cells := 0, slots := 0, locals := 0 } : Room).cells ({ frames := 0, cells := 0, slots := 0, locals := 0 } : Room).slots) := by
  have K' := K
  obtain ⟨S0, E0, S1, E1, S2, E2, S3, E3, S4, E4, S5, E5, S6, E6, S7, E7, S8, E8, S9, E9, S10, E10, S11, E11, S12, E12, S13, E13, F0, F1, F2, F3, F4⟩ := K'
  refine MetFree.of_bodySF (plainFor_of_name own_pn8) hisR ?_
  intro p e s m args below meth c s₁ Bd hml0 hP hK
  obtain ⟨rfl, hZ, hh⟩ := hP
  have hx := Bd.exec
  have hby := Bd.bytes
  have hml : c.maxLocals = 2 := hml0
  have hown : s.vm.findClass "com/example/midpoint/midpoint/rounding/Mode$7" = some m.cls := findClass_of_methodNamed Bd.named
  have X0 : Stand p l e ({ frames := 0, cells := 0, slots := 0, locals := 0 } : Room) s m #[(.ref c7), (.int (1 : Int32))] below meth c s₁ [] 0 0 := Stand.of_body Bd
  have e0 : s₁.heap = h0 := by rw [← hh, Bd.state]; rfl
  have N0 := Fr.nil n0
  have pre0 : ∀ t, Steps p.tables e below (s₁.setTop (mkF m 0 #[.val (.ref c7), .val (.int (1 : Int32))] [])) t → Steps p.tables e below (s₁.setTop (entryFrame m #[(.ref c7), (.int (1 : Int32))] 2)) t := fun t k => castTop (own_ef10 m c7 (1 : Int32)) k
  obtain ⟨T1, X1, e1, st1⟩ := getS2 X0 hx hZ hown (host := "") (Or.inl (hw _ (List.mem_of_getElem? (i := 79) rfl))) Via.refl e0 S12 (g := (mkF m 0 #[.val (.ref c7), .val (.int (1 : Int32))] [])) rfl (hb hby own_d10_0)
  obtain ⟨fs, hr, hrun, hended, hW, hsame⟩ := X1.leave (v := some (.ref c12)) (fun h => by rw [Bd.returns] at h; cases h)
  refine ⟨_, _, pre0 _ ?_, hrun, hended, _, _, rfl, ?_, ⟨_, rfl⟩, hW, hsame.mono (by decide) (by decide)⟩
  · show Steps p.tables e below (s₁.setTop (mkF m 0 #[.val (.ref c7), .val (.int (1 : Int32))] [])) _
    refine st1 _ ?_
    show Steps p.tables e below (T1.setTop (mkF m 3 #[.val (.ref c7), .val (.int (1 : Int32))] [(.ref c12)])) _
    jvm_step X1.here [X1.here.top, hx, (hb hby own_d10_3), X1.method', Bd.returns, Value.isRef, FieldType.isReference]
    first | (intro acts; rw [hr _ acts rfl rfl rfl]) | rw [hr _ _ rfl rfl rfl]
    exact Steps.refl _
  · show own_Q _ h0 n0 _ T1.heap _
    exact ⟨rfl, N0, e1⟩
set_option maxRecDepth 65536 in
set_option maxHeartbeats 40000000 in
theorem own_r2_6 (l : Launch) (Z : State) (a0 : Array Value) (hw : ∀ d ∈ tables_1, d.before a0 Z = true) (ws : List Jvm.Cond)  (c0 c1 c2 c3 c4 c5 c6 c7 c8 c9 c10 c11 c12 c13 : Addr) (h0 : Heap) (n0 : Nat) (Z0 : n0 ≤ h0.size) (K : own_W Z h0 c0 c1 c2 c3 c4 c5 c6 c7 c8 c9 c10 c11 c12 c13)  :
    MetFree l (⟨"com/example/midpoint/midpoint/rounding/Mode", "isSymmetric", "()Z"⟩ : MethodName) (head1 (Jvm.Cond.code (⟨"com/example/midpoint/midpoint/rounding/Mode", "isSymmetric", "()Z"⟩ : MethodName) prog_19_method_7_code 1 (some .boolean) :: ws) ({ frames := 1, cells := 0, slots := 0, locals := 14 } : Room)) (fun a U => a = #[(.ref c7)] ∧ Z.Warmed39 U.vm ∧ U.heap = h0) (fun _ _ _ _ _ => True) (fun _ U o U' => ∃ v L, o = .returned v ∧ own_Q (.int (1 : Int32)) h0 n0 v U'.heap L ∧ FrameEnd U o U' L ({ frames := 1, cells := 0, slots := 0, locals := 14 } : Room).cells ({ frames := 1, cells := 0, slots := 0, locals := 14 } : Room).slots) := by
  have K' := K
  obtain ⟨S0, E0, S1, E1, S2, E2, S3, E3, S4, E4, S5, E5, S6, E6, S7, E7, S8, E8, S9, E9, S10, E10, S11, E11, S12, E12, S13, E13, F0, F1, F2, F3, F4⟩ := K'
  refine MetFree.of_bodySF (plainFor_of_name own_pn2) hisR ?_
  intro p e s m args below meth c s₁ Bd hml0 hP hK
  obtain ⟨rfl, hZ, hh⟩ := hP
  have hx := Bd.exec
  have hby := Bd.bytes
  have hml : c.maxLocals = 1 := hml0
  have hown : s.vm.findClass "com/example/midpoint/midpoint/rounding/Mode" = some m.cls := findClass_of_methodNamed Bd.named
  have X0 : Stand p l e ({ frames := 1, cells := 0, slots := 0, locals := 14 } : Room) s m #[(.ref c7)] below meth c s₁ [] 0 0 := Stand.of_body Bd
  have e0 : s₁.heap = h0 := by rw [← hh, Bd.state]; rfl
  have N0 := Fr.nil n0
  have pre0 : ∀ t, Steps p.tables e below (s₁.setTop (mkF m 0 #[.val (.ref c7)] [])) t → Steps p.tables e below (s₁.setTop (entryFrame m #[(.ref c7)] 1)) t := fun t k => castTop (own_ef2 m c7) k
  obtain ⟨cq1, kq1, q1a, q1b, q1c⟩ := isOf hZ e0 E7
  obtain ⟨_, _, ⟨T1, L1, k1, n1⟩, -, X1, ⟨Lc1, hQ1, l1, y1, z1⟩, st1⟩ := X0.virtualBack hx (y := (⟨"com/example/midpoint/midpoint/rounding/Mode", "onMagnitude", "(Z)Ljava/math/RoundingMode;"⟩ : MethodName)) (z := (⟨"com/example/midpoint/midpoint/rounding/Mode$7", "onMagnitude", "(Z)Ljava/math/RoundingMode;"⟩ : MethodName)) hown (mvT hZ (hw _ (List.mem_of_getElem? (i := 13) rfl))) (mvT hZ (hw _ (List.mem_of_getElem? (i := 14) rfl))) (own_nf (args := #[]) (D := "com/example/midpoint/midpoint/rounding/Mode$1") (n := "isSymmetric") (d := "()Z") (mvT hZ (hw _ (List.mem_of_getElem? (i := 11) rfl))) (mvT hZ (hw _ (List.mem_of_getElem? (i := 9) rfl)))) (mvT hZ (hw _ (List.mem_of_getElem? (i := 75) rfl))) (mvT hZ (hw _ (List.mem_of_getElem? (i := 76) rfl))) (by decide) (backOf (W := 0) (own_r10_0 l Z a0 hw [] c0 c1 c2 c3 c4 c5 c6 c7 c8 c9 c10 c11 c12 c13 h0 n0 Z0 K) hZ (hw _ (List.mem_of_getElem? (i := 78) rfl)) (hw _ (List.mem_of_getElem? (i := 77) rfl)) (by decide) (by decide)) q1a q1c (g := (mkF m 2 #[.val (.ref c7)] [(.int (0 : Int32)), (.ref c7)])) rfl (by rw [hml]; rfl) (Steps.refl _) (argsL := [(.int (0 : Int32))]) (rest := []) (lenOf own_pd1 rfl) rfl (by show 2 * 0 + _ ≤ _; exact Nat.le_of_eq rfl) (hb hby own_d2_2) (fun _ _ => ⟨rfl, e0, (by decide : 0 + 0 ≤ _), (by decide : 0 + 0 ≤ _)⟩)
  dsimp only [Pt.U, Pt.locs, Pt.cells, Pt.slots] at X1 l1 y1 z1 st1 hQ1
  subst l1 y1 z1
  obtain ⟨rfl, N1q, e1⟩ := hQ1
  have N1 := Fr.app N0 N1q
  obtain ⟨cq2, kq2, q2a, q2b, q2c⟩ := isOf hZ e1 E7
  obtain ⟨_, _, ⟨T2, L2, k2, n2⟩, -, X2, ⟨Lc2, hQ2, l2, y2, z2⟩, st2⟩ := X1.virtualBack hx (y := (⟨"com/example/midpoint/midpoint/rounding/Mode", "onMagnitude", "(Z)Ljava/math/RoundingMode;"⟩ : MethodName)) (z := (⟨"com/example/midpoint/midpoint/rounding/Mode$7", "onMagnitude", "(Z)Ljava/math/RoundingMode;"⟩ : MethodName)) hown (mvT hZ (hw _ (List.mem_of_getElem? (i := 13) rfl))) (mvT hZ (hw _ (List.mem_of_getElem? (i := 14) rfl))) (own_nf (args := #[]) (D := "com/example/midpoint/midpoint/rounding/Mode$1") (n := "isSymmetric") (d := "()Z") (mvT hZ (hw _ (List.mem_of_getElem? (i := 11) rfl))) (mvT hZ (hw _ (List.mem_of_getElem? (i := 9) rfl)))) (mvT hZ (hw _ (List.mem_of_getElem? (i := 75) rfl))) (mvT hZ (hw _ (List.mem_of_getElem? (i := 76) rfl))) (by decide) (backOf (W := 1) (own_r10_1 l Z a0 hw [] c0 c1 c2 c3 c4 c5 c6 c7 c8 c9 c10 c11 c12 c13 h0 n0 Z0 K) hZ (hw _ (List.mem_of_getElem? (i := 78) rfl)) (hw _ (List.mem_of_getElem? (i := 77) rfl)) (by decide) (by decide)) q2a q2c (g := (mkF m 7 #[.val (.ref c7)] [(.int (1 : Int32)), (.ref c7), (.ref c12)])) rfl (by rw [hml]; rfl) (Steps.refl _) (argsL := [(.int (1 : Int32))]) (rest := [(.ref c12)]) (lenOf own_pd1 rfl) rfl (by show 2 * 0 + _ ≤ _; exact Nat.le_of_eq rfl) (hb hby own_d2_7) (fun _ _ => ⟨rfl, e1, (by decide : 0 + 0 ≤ _), (by decide : 0 + 0 ≤ _)⟩)
  dsimp only [Pt.U, Pt.locs, Pt.cells, Pt.slots] at X2 l2 y2 z2 st2 hQ2
  subst l2 y2 z2
  obtain ⟨rfl, N2q, e2⟩ := hQ2
  have N2 := Fr.app N1 N2q
  obtain ⟨fs, hr, hrun, hended, hW, hsame⟩ := X2.leave (v := some (.int (1 : Int32))) (fun h => by rw [Bd.returns] at h; cases h)
  refine ⟨_, _, pre0 _ ?_, hrun, hended, _, _, rfl, ?_, ⟨_, rfl⟩, hW, hsame.mono (by decide) (by decide)⟩
  · show Steps p.tables e below (s₁.setTop (mkF m 0 #[.val (.ref c7)] [])) _
    refine XS.aloadN X0.here hx rfl (hb hby own_d2_0) rfl rfl ?_
    show Steps p.tables e below (s₁.setTop (mkF m 1 #[.val (.ref c7)] [(.ref c7)])) _
    refine XS.iconst X0.here hx rfl (hb hby own_d2_1) ?_
    show Steps p.tables e below (s₁.setTop (mkF m 2 #[.val (.ref c7)] [(.int (0 : Int32)), (.ref c7)])) _
    refine st1.trans ?_
    show Steps p.tables e below (T1.setTop (mkF m 5 #[.val (.ref c7)] [(.ref c12)])) _
    refine XS.aloadN X1.here hx rfl (hb hby own_d2_5) rfl rfl ?_
    show Steps p.tables e below (T1.setTop (mkF m 6 #[.val (.ref c7)] [(.ref c7), (.ref c12)])) _
    refine XS.iconst X1.here hx rfl (hb hby own_d2_6) ?_
    show Steps p.tables e below (T1.setTop (mkF m 7 #[.val (.ref c7)] [(.int (1 : Int32)), (.ref c7), (.ref c12)])) _
    refine st2.trans ?_
    show Steps p.tables e below (T2.setTop (mkF m 10 #[.val (.ref c7)] [(.ref c12), (.ref c12)])) _
    refine Jvm.RoadKit.acmp (g := (mkF m 10 #[.val (.ref c7)] [(.ref c12), (.ref c12)])) X2 hx rfl rfl rfl (pc0 := 10) (pc' := 13) (same := true) rfl (hb hby own_d2_10) rfl (decide_eq_true rfl) (by decide) (by decide) ?_
    show Steps p.tables e below (T2.setTop (mkF m 13 #[.val (.ref c7)] [])) _
    refine XS.iconst X2.here hx rfl (hb hby own_d2_13) ?_
    show Steps p.tables e below (T2.setTop (mkF m 14 #[.val (.ref c7)] [(.int (1 : Int32))])) _
    refine XS.goto X2.here hx rfl (pc0 := 14) (pc' := 18) rfl (hb hby own_d2_14) (by decide) (by decide) ?_
    show Steps p.tables e below (T2.setTop (mkF m 18 #[.val (.ref c7)] [(.int (1 : Int32))])) _
    exact retN X2 hx (t := .boolean) Bd.returns (by simp) (hb hby own_d2_18) hr
  · show own_Q _ h0 n0 _ T2.heap _
    exact ⟨rfl, N2, e2⟩
set_option maxRecDepth 65536 in
set_option maxHeartbeats 40000000 in
theorem own_r0_6 (l : Launch) (Z : State) (a0 : Array Value) (hw : ∀ d ∈ tables_1, d.before a0 Z = true) (ws : List Jvm.Cond) (p0 : Int32) (c0 c1 c2 c3 c4 c5 c6 c7 c8 c9 c10 c11 c12 c13 : Addr) (h0 : Heap) (n0 : Nat) (Z0 : n0 ≤ h0.size) (K : own_W Z h0 c0 c1 c2 c3 c4 c5 c6 c7 c8 c9 c10 c11 c12 c13) (hk0 : ((p0 &&& (2147483647 : Int32)) % (9 : Int32)) = (6 : Int32)) :
    MetFree l x (head1 (Jvm.Cond.code x code maxLocals ret :: ws) room_1) (fun a U => a = #[(.int p0)] ∧ Z.Warmed39 U.vm ∧ U.heap = h0) (fun _ _ _ _ _ => True) (fun _ U o U' => ∃ v L, o = .returned v ∧ own_Q (.int (1 : Int32)) h0 n0 v U'.heap L ∧ FrameEnd U o U' L room_1.cells room_1.slots) := by
  have K' := K
  obtain ⟨S0, E0, S1, E1, S2, E2, S3, E3, S4, E4, S5, E5, S6, E6, S7, E7, S8, E8, S9, E9, S10, E10, S11, E11, S12, E12, S13, E13, F0, F1, F2, F3, F4⟩ := K'
  refine MetFree.of_bodySF (plainFor_of_name own_pn0) hisR ?_
  intro p e s m args below meth c s₁ Bd hml0 hP hK
  obtain ⟨rfl, hZ, hh⟩ := hP
  have hx := Bd.exec
  have hby := Bd.bytes
  have hml : c.maxLocals = 4 := hml0
  have hown : s.vm.findClass "com/example/midpoint/midpoint/rounding/ModeIsSymmetricPinLaw" = some m.cls := findClass_of_methodNamed Bd.named
  have X0 : Stand p l e room_1 s m #[(.int p0)] below meth c s₁ [] 0 0 := Stand.of_body Bd
  have e0 : s₁.heap = h0 := by rw [← hh, Bd.state]; rfl
  have N0 := Fr.nil n0
  have pre0 : ∀ t, Steps p.tables e below (s₁.setTop (mkF m 0 #[.val (.int p0), .unset, .unset, .unset] [])) t → Steps p.tables e below (s₁.setTop (entryFrame m #[(.int p0)] maxLocals)) t := fun t k => castTop (own_ef0 m p0) k
  obtain ⟨_, _, ⟨T1, L1, k1, n1⟩, -, X1, ⟨Lc1, hQ1, l1, y1, z1⟩, st1⟩ := Jvm.LawKit.callS X0 hx (y := (⟨"com/example/midpoint/midpoint/rounding/ModeIsSymmetricPinLaw", "modeAt", "(I)Lcom/example/midpoint/midpoint/rounding/Mode;"⟩ : MethodName)) hown (mvT hZ (hw _ (List.mem_of_getElem? (i := 1) rfl))) (mvT hZ (hw _ (List.mem_of_getElem? (i := 2) rfl))) (mvT hZ (hw _ (List.mem_of_getElem? (i := 3) rfl))) (mvT hZ (hw _ (List.mem_of_getElem? (i := 4) rfl))) (by decide) (backOf (W := 0) (own_r1_6 l Z a0 hw [] c0 c1 c2 c3 c4 c5 c6 c7 c8 c9 c10 c11 c12 c13 h0 n0 Z0 K) hZ (hw _ (List.mem_of_getElem? (i := 4) rfl)) (hw _ (List.mem_of_getElem? (i := 3) rfl)) (by decide) (by decide)) (g := (mkF m 9 #[.val (.int p0), .val (.int (6 : Int32)), .unset, .unset] [(.int (6 : Int32))])) rfl (by rw [hml]; rfl) (argsL := [(.int (6 : Int32))]) (rest := []) (lenOf own_pd0 rfl) rfl (by show 2 * 0 + _ ≤ _; exact Nat.le_of_eq rfl) (hb hby at_9) (fun _ _ => ⟨rfl, e0, (by decide : 0 + 0 ≤ _), (by decide : 0 + 0 ≤ _)⟩)
  dsimp only [Pt.U, Pt.locs, Pt.cells, Pt.slots] at X1 l1 y1 z1 st1 hQ1
  subst l1 y1 z1
  obtain ⟨rfl, N1q, e1⟩ := hQ1
  have N1 := Fr.app N0 N1q
  obtain ⟨cq2, kq2, q2a, q2b, q2c⟩ := isOf hZ e1 E7
  obtain ⟨_, _, ⟨T2, L2, k2, n2⟩, -, X2, ⟨Lc2, hQ2, l2, y2, z2⟩, st2⟩ := X1.virtualBack hx (y := (⟨"com/example/midpoint/midpoint/rounding/Mode", "isSymmetric", "()Z"⟩ : MethodName)) (z := (⟨"com/example/midpoint/midpoint/rounding/Mode", "isSymmetric", "()Z"⟩ : MethodName)) hown (mvT hZ (hw _ (List.mem_of_getElem? (i := 8) rfl))) (mvT hZ (hw _ (List.mem_of_getElem? (i := 9) rfl))) (notFace_of_selects (args := #[]) (mvT hZ (hw _ (List.mem_of_getElem? (i := 74) rfl)))) (mvT hZ (hw _ (List.mem_of_getElem? (i := 74) rfl))) (mvT hZ (hw _ (List.mem_of_getElem? (i := 10) rfl))) (by decide) (backOf (W := 0) (own_r2_6 l Z a0 hw [] c0 c1 c2 c3 c4 c5 c6 c7 c8 c9 c10 c11 c12 c13 h0 n0 Z0 K) hZ (hw _ (List.mem_of_getElem? (i := 12) rfl)) (hw _ (List.mem_of_getElem? (i := 6) rfl)) (by decide) (by decide)) q2a q2c (g := (mkF m 48 #[.val (.int p0), .val (.int (6 : Int32)), .val (.ref c7), .val (.int (1 : Int32))] [(.ref c7)])) rfl (by rw [hml]; rfl) (Steps.refl _) (argsL := []) (rest := []) (lenOf own_pd2 rfl) rfl (by show 2 * 0 + _ ≤ _; exact Nat.le_of_eq rfl) (hb hby at_48) (fun _ _ => ⟨rfl, e1, (by decide : 0 + 0 ≤ _), (by decide : 0 + 0 ≤ _)⟩)
  dsimp only [Pt.U, Pt.locs, Pt.cells, Pt.slots] at X2 l2 y2 z2 st2 hQ2
  subst l2 y2 z2
  obtain ⟨rfl, N2q, e2⟩ := hQ2
  have N2 := Fr.app N1 N2q
  obtain ⟨fs, hr, hrun, hended, hW, hsame⟩ := X2.leave (v := some (.int (1 : Int32))) (fun h => by rw [Bd.returns] at h; cases h)
  refine ⟨_, _, pre0 _ ?_, hrun, hended, _, _, rfl, ?_, ⟨_, rfl⟩, hW, hsame.mono (by decide) (by decide)⟩
  · show Steps p.tables e below (s₁.setTop (mkF m 0 #[.val (.int p0), .unset, .unset, .unset] [])) _
    refine XS.iloadN X0.here hx rfl (hb hby at_0) rfl ?_
    show Steps p.tables e below (s₁.setTop (mkF m 1 #[.val (.int p0), .unset, .unset, .unset] [(.int p0)])) _
    refine X0.ldcInt hx hown (mvT hZ (hw _ (List.mem_of_getElem? (i := 0) rfl))) (g := (mkF m 1 #[.val (.int p0), .unset, .unset, .unset] [(.int p0)])) rfl (hb hby at_1) _ ?_
    show Steps p.tables e below (s₁.setTop (mkF m 3 #[.val (.int p0), .unset, .unset, .unset] [(.int (2147483647 : Int32)), (.int p0)])) _
    refine XS.iand X0.here hx rfl (hb hby at_3) rfl ?_
    show Steps p.tables e below (s₁.setTop (mkF m 4 #[.val (.int p0), .unset, .unset, .unset] [(.int (p0 &&& (2147483647 : Int32)))])) _
    refine XS.bipush X0.here hx rfl (hb hby at_4) ?_
    show Steps p.tables e below (s₁.setTop (mkF m 6 #[.val (.int p0), .unset, .unset, .unset] [(.int (9 : Int32)), (.int (p0 &&& (2147483647 : Int32)))])) _
    refine iremM X0 hx rfl (hb hby at_6) rfl (by decide) ?_
    show Steps p.tables e below (s₁.setTop (mkF m 7 #[.val (.int p0), .unset, .unset, .unset] [(.int ((p0 &&& (2147483647 : Int32)) % (9 : Int32)))])) _
    rw [hk0]
    show Steps p.tables e below (s₁.setTop (mkF m 7 #[.val (.int p0), .unset, .unset, .unset] [(.int (6 : Int32))])) _
    refine XS.istoreN X0.here hx rfl (hb hby at_7) rfl (l' := #[.val (.int p0), .val (.int (6 : Int32)), .unset, .unset]) rfl ?_
    show Steps p.tables e below (s₁.setTop (mkF m 8 #[.val (.int p0), .val (.int (6 : Int32)), .unset, .unset] [])) _
    refine XS.iloadN X0.here hx rfl (hb hby at_8) rfl ?_
    show Steps p.tables e below (s₁.setTop (mkF m 9 #[.val (.int p0), .val (.int (6 : Int32)), .unset, .unset] [(.int (6 : Int32))])) _
    refine st1 _ ?_
    show Steps p.tables e below (T1.setTop (mkF m 12 #[.val (.int p0), .val (.int (6 : Int32)), .unset, .unset] [(.ref c7)])) _
    refine XS.astoreN X1.here hx rfl (hb hby at_12) rfl rfl (l' := #[.val (.int p0), .val (.int (6 : Int32)), .val (.ref c7), .unset]) rfl ?_
    show Steps p.tables e below (T1.setTop (mkF m 13 #[.val (.int p0), .val (.int (6 : Int32)), .val (.ref c7), .unset] [])) _
    refine XS.iloadN X1.here hx rfl (hb hby at_13) rfl ?_
    show Steps p.tables e below (T1.setTop (mkF m 14 #[.val (.int p0), .val (.int (6 : Int32)), .val (.ref c7), .unset] [(.int (6 : Int32))])) _
    refine XS.iconst X1.here hx rfl (hb hby at_14) ?_
    show Steps p.tables e below (T1.setTop (mkF m 15 #[.val (.int p0), .val (.int (6 : Int32)), .val (.ref c7), .unset] [(.int (2 : Int32)), (.int (6 : Int32))])) _
    refine XS.icmpNo X1.here hx rfl (hb hby at_15) rfl (feq (by decide : ¬ ((6 : Int32) = (2 : Int32)))).1 ?_
    show Steps p.tables e below (T1.setTop (mkF m 18 #[.val (.int p0), .val (.int (6 : Int32)), .val (.ref c7), .unset] [])) _
    refine XS.iloadN X1.here hx rfl (hb hby at_18) rfl ?_
    show Steps p.tables e below (T1.setTop (mkF m 19 #[.val (.int p0), .val (.int (6 : Int32)), .val (.ref c7), .unset] [(.int (6 : Int32))])) _
    refine XS.iconst X1.here hx rfl (hb hby at_19) ?_
    show Steps p.tables e below (T1.setTop (mkF m 20 #[.val (.int p0), .val (.int (6 : Int32)), .val (.ref c7), .unset] [(.int (3 : Int32)), (.int (6 : Int32))])) _
    refine XS.icmpNo X1.here hx rfl (hb hby at_20) rfl (feq (by decide : ¬ ((6 : Int32) = (3 : Int32)))).1 ?_
    show Steps p.tables e below (T1.setTop (mkF m 23 #[.val (.int p0), .val (.int (6 : Int32)), .val (.ref c7), .unset] [])) _
    refine XS.iloadN X1.here hx rfl (hb hby at_23) rfl ?_
    show Steps p.tables e below (T1.setTop (mkF m 24 #[.val (.int p0), .val (.int (6 : Int32)), .val (.ref c7), .unset] [(.int (6 : Int32))])) _
    refine XS.bipush X1.here hx rfl (hb hby at_24) ?_
    show Steps p.tables e below (T1.setTop (mkF m 26 #[.val (.int p0), .val (.int (6 : Int32)), .val (.ref c7), .unset] [(.int (6 : Int32)), (.int (6 : Int32))])) _
    refine XS.icmpYes X1.here hx rfl (pc0 := 26) (pc' := 41) rfl (hb hby at_26) rfl (teq (by decide : (6 : Int32) = (6 : Int32))).1 (by decide) (by decide) ?_
    show Steps p.tables e below (T1.setTop (mkF m 41 #[.val (.int p0), .val (.int (6 : Int32)), .val (.ref c7), .unset] [])) _
    refine XS.iconst X1.here hx rfl (hb hby at_41) ?_
    show Steps p.tables e below (T1.setTop (mkF m 42 #[.val (.int p0), .val (.int (6 : Int32)), .val (.ref c7), .unset] [(.int (1 : Int32))])) _
    refine XS.goto X1.here hx rfl (pc0 := 42) (pc' := 46) rfl (hb hby at_42) (by decide) (by decide) ?_
    show Steps p.tables e below (T1.setTop (mkF m 46 #[.val (.int p0), .val (.int (6 : Int32)), .val (.ref c7), .unset] [(.int (1 : Int32))])) _
    refine XS.istoreN X1.here hx rfl (hb hby at_46) rfl (l' := #[.val (.int p0), .val (.int (6 : Int32)), .val (.ref c7), .val (.int (1 : Int32))]) rfl ?_
    show Steps p.tables e below (T1.setTop (mkF m 47 #[.val (.int p0), .val (.int (6 : Int32)), .val (.ref c7), .val (.int (1 : Int32))] [])) _
    refine XS.aloadN X1.here hx rfl (hb hby at_47) rfl rfl ?_
    show Steps p.tables e below (T1.setTop (mkF m 48 #[.val (.int p0), .val (.int (6 : Int32)), .val (.ref c7), .val (.int (1 : Int32))] [(.ref c7)])) _
    refine st2.trans ?_
    show Steps p.tables e below (T2.setTop (mkF m 51 #[.val (.int p0), .val (.int (6 : Int32)), .val (.ref c7), .val (.int (1 : Int32))] [(.int (1 : Int32))])) _
    refine XS.iloadN X2.here hx rfl (hb hby at_51) rfl ?_
    show Steps p.tables e below (T2.setTop (mkF m 52 #[.val (.int p0), .val (.int (6 : Int32)), .val (.ref c7), .val (.int (1 : Int32))] [(.int (1 : Int32)), (.int (1 : Int32))])) _
    refine XS.icmpNo X2.here hx rfl (hb hby at_52) rfl (teq (by decide : (1 : Int32) = (1 : Int32))).2 ?_
    show Steps p.tables e below (T2.setTop (mkF m 55 #[.val (.int p0), .val (.int (6 : Int32)), .val (.ref c7), .val (.int (1 : Int32))] [])) _
    refine XS.iconst X2.here hx rfl (hb hby at_55) ?_
    show Steps p.tables e below (T2.setTop (mkF m 56 #[.val (.int p0), .val (.int (6 : Int32)), .val (.ref c7), .val (.int (1 : Int32))] [(.int (1 : Int32))])) _
    refine XS.goto X2.here hx rfl (pc0 := 56) (pc' := 60) rfl (hb hby at_56) (by decide) (by decide) ?_
    show Steps p.tables e below (T2.setTop (mkF m 60 #[.val (.int p0), .val (.int (6 : Int32)), .val (.ref c7), .val (.int (1 : Int32))] [(.int (1 : Int32))])) _
    exact retN X2 hx (t := .boolean) Bd.returns (by simp) (hb hby at_60) hr
  · show own_Q _ h0 n0 _ T2.heap _
    exact ⟨rfl, N2, e2⟩
theorem own_d1_63 : decode method_3_code 63 = .ok (.iload_n 0, 1) := by decide +kernel
theorem own_d1_64 : decode method_3_code 64 = .ok (.bipush 7, 2) := by decide +kernel
theorem own_d1_66 : decode method_3_code 66 = .ok (.if_icmp .ne 7, 3) := by decide +kernel
theorem own_d1_69 : decode method_3_code 69 = .ok (.getstatic 42, 3) := by decide +kernel
theorem own_d1_72 : decode method_3_code 72 = .ok (.areturn, 1) := by decide +kernel
set_option maxRecDepth 65536 in
set_option maxHeartbeats 40000000 in
theorem own_r1_7 (l : Launch) (Z : State) (a0 : Array Value) (hw : ∀ d ∈ tables_1, d.before a0 Z = true) (ws : List Jvm.Cond)  (c0 c1 c2 c3 c4 c5 c6 c7 c8 c9 c10 c11 c12 c13 : Addr) (h0 : Heap) (n0 : Nat) (Z0 : n0 ≤ h0.size) (K : own_W Z h0 c0 c1 c2 c3 c4 c5 c6 c7 c8 c9 c10 c11 c12 c13)  :
    MetFree l (⟨"com/example/midpoint/midpoint/rounding/ModeIsSymmetricPinLaw", "modeAt", "(I)Lcom/example/midpoint/midpoint/rounding/Mode;"⟩ : MethodName) (head1 (Jvm.Cond.code (⟨"com/example/midpoint/midpoint/rounding/ModeIsSymmetricPinLaw", "modeAt", "(I)Lcom/example/midpoint/midpoint/rounding/Mode;"⟩ : MethodName) method_3_code 1 (some (.object "com/example/midpoint/midpoint/rounding/Mode")) :: ws) ({ frames := 0, cells := 0, slots := 0, locals := 0 } : Room)) (fun a U => a = #[(.int (7 : Int32))] ∧ Z.Warmed39 U.vm ∧ U.heap = h0) (fun _ _ _ _ _ => True) (fun _ U o U' => ∃ v L, o = .returned v ∧ own_Q (.ref c4) h0 n0 v U'.heap L ∧ FrameEnd U o U' L ({ frames := 0, cells := 0, slots := 0, locals := 0 } : Room).cells ({ frames := 0, cells := 0, slots := 0, locals := 0 } : Room).slots) := by
  have K' := K
  obtain ⟨S0, E0, S1, E1, S2, E2, S3, E3, S4, E4, S5, E5, S6, E6, S7, E7, S8, E8, S9, E9, S10, E10, S11, E11, S12, E12, S13, E13, F0, F1, F2, F3, F4⟩ := K'
  refine MetFree.of_bodySF (plainFor_of_name own_pn0) hisR ?_
  intro p e s m args below meth c s₁ Bd hml0 hP hK
  obtain ⟨rfl, hZ, hh⟩ := hP
  have hx := Bd.exec
  have hby := Bd.bytes
  have hml : c.maxLocals = 1 := hml0
  have hown : s.vm.findClass "com/example/midpoint/midpoint/rounding/ModeIsSymmetricPinLaw" = some m.cls := findClass_of_methodNamed Bd.named
  have X0 : Stand p l e ({ frames := 0, cells := 0, slots := 0, locals := 0 } : Room) s m #[(.int (7 : Int32))] below meth c s₁ [] 0 0 := Stand.of_body Bd
  have e0 : s₁.heap = h0 := by rw [← hh, Bd.state]; rfl
  have N0 := Fr.nil n0
  have pre0 : ∀ t, Steps p.tables e below (s₁.setTop (mkF m 0 #[.val (.int (7 : Int32))] [])) t → Steps p.tables e below (s₁.setTop (entryFrame m #[(.int (7 : Int32))] 1)) t := fun t k => castTop (own_ef1 m (7 : Int32)) k
  obtain ⟨T1, X1, e1, st1⟩ := getS2 X0 hx hZ hown (host := "") (Or.inl (hw _ (List.mem_of_getElem? (i := 47) rfl))) Via.refl e0 S4 (g := (mkF m 69 #[.val (.int (7 : Int32))] [])) rfl (hb hby own_d1_69)
  obtain ⟨fs, hr, hrun, hended, hW, hsame⟩ := X1.leave (v := some (.ref c4)) (fun h => by rw [Bd.returns] at h; cases h)
  refine ⟨_, _, pre0 _ ?_, hrun, hended, _, _, rfl, ?_, ⟨_, rfl⟩, hW, hsame.mono (by decide) (by decide)⟩
  · show Steps p.tables e below (s₁.setTop (mkF m 0 #[.val (.int (7 : Int32))] [])) _
    refine XS.iloadN X0.here hx rfl (hb hby own_d1_0) rfl ?_
    show Steps p.tables e below (s₁.setTop (mkF m 1 #[.val (.int (7 : Int32))] [(.int (7 : Int32))])) _
    refine XS.ifYes X0.here hx rfl (pc0 := 1) (pc' := 8) rfl (hb hby own_d1_1) rfl ((if0 _ _).trans (feq (by decide : ¬ ((7 : Int32) = (0 : Int32)))).2) (by decide) (by decide) ?_
    show Steps p.tables e below (s₁.setTop (mkF m 8 #[.val (.int (7 : Int32))] [])) _
    refine XS.iloadN X0.here hx rfl (hb hby own_d1_8) rfl ?_
    show Steps p.tables e below (s₁.setTop (mkF m 9 #[.val (.int (7 : Int32))] [(.int (7 : Int32))])) _
    refine XS.iconst X0.here hx rfl (hb hby own_d1_9) ?_
    show Steps p.tables e below (s₁.setTop (mkF m 10 #[.val (.int (7 : Int32))] [(.int (1 : Int32)), (.int (7 : Int32))])) _
    refine XS.icmpYes X0.here hx rfl (pc0 := 10) (pc' := 17) rfl (hb hby own_d1_10) rfl (feq (by decide : ¬ ((7 : Int32) = (1 : Int32)))).2 (by decide) (by decide) ?_
    show Steps p.tables e below (s₁.setTop (mkF m 17 #[.val (.int (7 : Int32))] [])) _
    refine XS.iloadN X0.here hx rfl (hb hby own_d1_17) rfl ?_
    show Steps p.tables e below (s₁.setTop (mkF m 18 #[.val (.int (7 : Int32))] [(.int (7 : Int32))])) _
    refine XS.iconst X0.here hx rfl (hb hby own_d1_18) ?_
    show Steps p.tables e below (s₁.setTop (mkF m 19 #[.val (.int (7 : Int32))] [(.int (2 : Int32)), (.int (7 : Int32))])) _
    refine XS.icmpYes X0.here hx rfl (pc0 := 19) (pc' := 26) rfl (hb hby own_d1_19) rfl (feq (by decide : ¬ ((7 : Int32) = (2 : Int32)))).2 (by decide) (by decide) ?_
    show Steps p.tables e below (s₁.setTop (mkF m 26 #[.val (.int (7 : Int32))] [])) _
    refine XS.iloadN X0.here hx rfl (hb hby own_d1_26) rfl ?_
    show Steps p.tables e below (s₁.setTop (mkF m 27 #[.val (.int (7 : Int32))] [(.int (7 : Int32))])) _
    refine XS.iconst X0.here hx rfl (hb hby own_d1_27) ?_
    show Steps p.tables e below (s₁.setTop (mkF m 28 #[.val (.int (7 : Int32))] [(.int (3 : Int32)), (.int (7 : Int32))])) _
    refine XS.icmpYes X0.here hx rfl (pc0 := 28) (pc' := 35) rfl (hb hby own_d1_28) rfl (feq (by decide : ¬ ((7 : Int32) = (3 : Int32)))).2 (by decide) (by decide) ?_
    show Steps p.tables e below (s₁.setTop (mkF m 35 #[.val (.int (7 : Int32))] [])) _
    refine XS.iloadN X0.here hx rfl (hb hby own_d1_35) rfl ?_
    show Steps p.tables e below (s₁.setTop (mkF m 36 #[.val (.int (7 : Int32))] [(.int (7 : Int32))])) _
    refine XS.iconst X0.here hx rfl (hb hby own_d1_36) ?_
    show Steps p.tables e below (s₁.setTop (mkF m 37 #[.val (.int (7 : Int32))] [(.int (4 : Int32)), (.int (7 : Int32))])) _
    refine XS.icmpYes X0.here hx rfl (pc0 := 37) (pc' := 44) rfl (hb hby own_d1_37) rfl (feq (by decide : ¬ ((7 : Int32) = (4 : Int32)))).2 (by decide) (by decide) ?_
    show Steps p.tables e below (s₁.setTop (mkF m 44 #[.val (.int (7 : Int32))] [])) _
    refine XS.iloadN X0.here hx rfl (hb hby own_d1_44) rfl ?_
    show Steps p.tables e below (s₁.setTop (mkF m 45 #[.val (.int (7 : Int32))] [(.int (7 : Int32))])) _
    refine XS.iconst X0.here hx rfl (hb hby own_d1_45) ?_
    show Steps p.tables e below (s₁.setTop (mkF m 46 #[.val (.int (7 : Int32))] [(.int (5 : Int32)), (.int (7 : Int32))])) _
    refine XS.icmpYes X0.here hx rfl (pc0 := 46) (pc' := 53) rfl (hb hby own_d1_46) rfl (feq (by decide : ¬ ((7 : Int32) = (5 : Int32)))).2 (by decide) (by decide) ?_
    show Steps p.tables e below (s₁.setTop (mkF m 53 #[.val (.int (7 : Int32))] [])) _
    refine XS.iloadN X0.here hx rfl (hb hby own_d1_53) rfl ?_
    show Steps p.tables e below (s₁.setTop (mkF m 54 #[.val (.int (7 : Int32))] [(.int (7 : Int32))])) _
    refine XS.bipush X0.here hx rfl (hb hby own_d1_54) ?_
    show Steps p.tables e below (s₁.setTop (mkF m 56 #[.val (.int (7 : Int32))] [(.int (6 : Int32)), (.int (7 : Int32))])) _
    refine XS.icmpYes X0.here hx rfl (pc0 := 56) (pc' := 63) rfl (hb hby own_d1_56) rfl (feq (by decide : ¬ ((7 : Int32) = (6 : Int32)))).2 (by decide) (by decide) ?_
    show Steps p.tables e below (s₁.setTop (mkF m 63 #[.val (.int (7 : Int32))] [])) _
    refine XS.iloadN X0.here hx rfl (hb hby own_d1_63) rfl ?_
    show Steps p.tables e below (s₁.setTop (mkF m 64 #[.val (.int (7 : Int32))] [(.int (7 : Int32))])) _
    refine XS.bipush X0.here hx rfl (hb hby own_d1_64) ?_
    show Steps p.tables e below (s₁.setTop (mkF m 66 #[.val (.int (7 : Int32))] [(.int (7 : Int32)), (.int (7 : Int32))])) _
    refine XS.icmpNo X0.here hx rfl (hb hby own_d1_66) rfl (teq (by decide : (7 : Int32) = (7 : Int32))).2 ?_
    show Steps p.tables e below (s₁.setTop (mkF m 69 #[.val (.int (7 : Int32))] [])) _
    refine st1 _ ?_
    show Steps p.tables e below (T1.setTop (mkF m 72 #[.val (.int (7 : Int32))] [(.ref c4)])) _
    jvm_step X1.here [X1.here.top, hx, (hb hby own_d1_72), X1.method', Bd.returns, Value.isRef, FieldType.isReference]
    first | (intro acts; rw [hr _ acts rfl rfl rfl]) | rw [hr _ _ rfl rfl rfl]
    exact Steps.refl _
  · show own_Q _ h0 n0 _ T1.heap _
    exact ⟨rfl, N0, e1⟩
theorem own_d7_0 : decode prog_27_method_2_code 0 = .ok (.getstatic 7, 3) := by decide +kernel
theorem own_d7_3 : decode prog_27_method_2_code 3 = .ok (.areturn, 1) := by decide +kernel
theorem own_pn9 : plainName "com/example/midpoint/midpoint/rounding/Mode$8" = true := by first | (simp [plainName, overriddenIn]; done) | decide +kernel
theorem own_ef7 (m : MethodId) (x0 : Addr) (x1 : Int32) : entryFrame m #[(.ref x0), (.int x1)] 2 = mkF m 0 #[.val (.ref x0), .val (.int x1)] [] := by first | (simp [entryFrame, mkF, argsToLocals, Value.category]; done) | rfl
set_option maxRecDepth 65536 in
set_option maxHeartbeats 40000000 in
theorem own_r7_0 (l : Launch) (Z : State) (a0 : Array Value) (hw : ∀ d ∈ tables_1, d.before a0 Z = true) (ws : List Jvm.Cond)  (c0 c1 c2 c3 c4 c5 c6 c7 c8 c9 c10 c11 c12 c13 : Addr) (h0 : Heap) (n0 : Nat) (Z0 : n0 ≤ h0.size) (K : own_W Z h0 c0 c1 c2 c3 c4 c5 c6 c7 c8 c9 c10 c11 c12 c13)  :
    MetFree l (⟨"com/example/midpoint/midpoint/rounding/Mode$8", "onMagnitude", "(Z)Ljava/math/RoundingMode;"⟩ : MethodName) (head1 (Jvm.Cond.code (⟨"com/example/midpoint/midpoint/rounding/Mode$8", "onMagnitude", "(Z)Ljava/math/RoundingMode;"⟩ : MethodName) prog_27_method_2_code 2 (some (.object "java/math/RoundingMode")) :: ws) ({ frames := 0, cells := 0, slots := 0, locals := 0 } : Room)) (fun a U => a = #[(.ref c4), (.int (0 : Int32))] ∧ Z.Warmed39 U.vm ∧ U.heap = h0) (fun _ _ _ _ _ => True) (fun _ U o U' => ∃ v L, o = .returned v ∧ own_Q (.ref c11) h0 n0 v U'.heap L ∧ FrameEnd U o U' L ({ frames := 0, cells := 0, slots := 0, locals := 0 } : Room).cells ({ frames := 0, cells := 0, slots := 0, locals := 0 } : Room).slots) := by
  have K' := K
  obtain ⟨S0, E0, S1, E1, S2, E2, S3, E3, S4, E4, S5, E5, S6, E6, S7, E7, S8, E8, S9, E9, S10, E10, S11, E11, S12, E12, S13, E13, F0, F1, F2, F3, F4⟩ := K'
  refine MetFree.of_bodySF (plainFor_of_name own_pn9) hisR ?_
  intro p e s m args below meth c s₁ Bd hml0 hP hK
  obtain ⟨rfl, hZ, hh⟩ := hP
  have hx := Bd.exec
  have hby := Bd.bytes
  have hml : c.maxLocals = 2 := hml0
  have hown : s.vm.findClass "com/example/midpoint/midpoint/rounding/Mode$8" = some m.cls := findClass_of_methodNamed Bd.named
  have X0 : Stand p l e ({ frames := 0, cells := 0, slots := 0, locals := 0 } : Room) s m #[(.ref c4), (.int (0 : Int32))] below meth c s₁ [] 0 0 := Stand.of_body Bd
  have e0 : s₁.heap = h0 := by rw [← hh, Bd.state]; rfl
  have N0 := Fr.nil n0
  have pre0 : ∀ t, Steps p.tables e below (s₁.setTop (mkF m 0 #[.val (.ref c4), .val (.int (0 : Int32))] [])) t → Steps p.tables e below (s₁.setTop (entryFrame m #[(.ref c4), (.int (0 : Int32))] 2)) t := fun t k => castTop (own_ef7 m c4 (0 : Int32)) k
  obtain ⟨T1, X1, e1, st1⟩ := getS2 X0 hx hZ hown (host := "") (Or.inl (hw _ (List.mem_of_getElem? (i := 54) rfl))) Via.refl e0 S11 (g := (mkF m 0 #[.val (.ref c4), .val (.int (0 : Int32))] [])) rfl (hb hby own_d7_0)
  obtain ⟨fs, hr, hrun, hended, hW, hsame⟩ := X1.leave (v := some (.ref c11)) (fun h => by rw [Bd.returns] at h; cases h)
  refine ⟨_, _, pre0 _ ?_, hrun, hended, _, _, rfl, ?_, ⟨_, rfl⟩, hW, hsame.mono (by decide) (by decide)⟩
  · show Steps p.tables e below (s₁.setTop (mkF m 0 #[.val (.ref c4), .val (.int (0 : Int32))] [])) _
    refine st1 _ ?_
    show Steps p.tables e below (T1.setTop (mkF m 3 #[.val (.ref c4), .val (.int (0 : Int32))] [(.ref c11)])) _
    jvm_step X1.here [X1.here.top, hx, (hb hby own_d7_3), X1.method', Bd.returns, Value.isRef, FieldType.isReference]
    first | (intro acts; rw [hr _ acts rfl rfl rfl]) | rw [hr _ _ rfl rfl rfl]
    exact Steps.refl _
  · show own_Q _ h0 n0 _ T1.heap _
    exact ⟨rfl, N0, e1⟩
set_option maxRecDepth 65536 in
set_option maxHeartbeats 40000000 in
theorem own_r7_1 (l : Launch) (Z : State) (a0 : Array Value) (hw : ∀ d ∈ tables_1, d.before a0 Z = true) (ws : List Jvm.Cond)  (c0 c1 c2 c3 c4 c5 c6 c7 c8 c9 c10 c11 c12 c13 : Addr) (h0 : Heap) (n0 : Nat) (Z0 : n0 ≤ h0.size) (K : own_W Z h0 c0 c1 c2 c3 c4 c5 c6 c7 c8 c9 c10 c11 c12 c13)  :
    MetFree l (⟨"com/example/midpoint/midpoint/rounding/Mode$8", "onMagnitude", "(Z)Ljava/math/RoundingMode;"⟩ : MethodName) (head1 (Jvm.Cond.code (⟨"com/example/midpoint/midpoint/rounding/Mode$8", "onMagnitude", "(Z)Ljava/math/RoundingMode;"⟩ : MethodName) prog_27_method_2_code 2 (some (.object "java/math/RoundingMode")) :: ws) ({ frames := 0, cells := 0, slots := 0, locals := 0 } : Room)) (fun a U => a = #[(.ref c4), (.int (1 : Int32))] ∧ Z.Warmed39 U.vm ∧ U.heap = h0) (fun _ _ _ _ _ => True) (fun _ U o U' => ∃ v L, o = .returned v ∧ own_Q (.ref c11) h0 n0 v U'.heap L ∧ FrameEnd U o U' L ({ frames := 0, cells := 0, slots := 0, locals := 0 } : Room).cells ({ frames := 0, cells := 0, slots := 0, locals := 0 } : Room).slots) := by
  have K' := K
  obtain ⟨S0, E0, S1, E1, S2, E2, S3, E3, S4, E4, S5, E5, S6, E6, S7, E7, S8, E8, S9, E9, S10, E10, S11, E11, S12, E12, S13, E13, F0, F1, F2, F3, F4⟩ := K'
  refine MetFree.of_bodySF (plainFor_of_name own_pn9) hisR ?_
  intro p e s m args below meth c s₁ Bd hml0 hP hK
  obtain ⟨rfl, hZ, hh⟩ := hP
  have hx := Bd.exec
  have hby := Bd.bytes
  have hml : c.maxLocals = 2 := hml0
  have hown : s.vm.findClass "com/example/midpoint/midpoint/rounding/Mode$8" = some m.cls := findClass_of_methodNamed Bd.named
  have X0 : Stand p l e ({ frames := 0, cells := 0, slots := 0, locals := 0 } : Room) s m #[(.ref c4), (.int (1 : Int32))] below meth c s₁ [] 0 0 := Stand.of_body Bd
  have e0 : s₁.heap = h0 := by rw [← hh, Bd.state]; rfl
  have N0 := Fr.nil n0
  have pre0 : ∀ t, Steps p.tables e below (s₁.setTop (mkF m 0 #[.val (.ref c4), .val (.int (1 : Int32))] [])) t → Steps p.tables e below (s₁.setTop (entryFrame m #[(.ref c4), (.int (1 : Int32))] 2)) t := fun t k => castTop (own_ef7 m c4 (1 : Int32)) k
  obtain ⟨T1, X1, e1, st1⟩ := getS2 X0 hx hZ hown (host := "") (Or.inl (hw _ (List.mem_of_getElem? (i := 54) rfl))) Via.refl e0 S11 (g := (mkF m 0 #[.val (.ref c4), .val (.int (1 : Int32))] [])) rfl (hb hby own_d7_0)
  obtain ⟨fs, hr, hrun, hended, hW, hsame⟩ := X1.leave (v := some (.ref c11)) (fun h => by rw [Bd.returns] at h; cases h)
  refine ⟨_, _, pre0 _ ?_, hrun, hended, _, _, rfl, ?_, ⟨_, rfl⟩, hW, hsame.mono (by decide) (by decide)⟩
  · show Steps p.tables e below (s₁.setTop (mkF m 0 #[.val (.ref c4), .val (.int (1 : Int32))] [])) _
    refine st1 _ ?_
    show Steps p.tables e below (T1.setTop (mkF m 3 #[.val (.ref c4), .val (.int (1 : Int32))] [(.ref c11)])) _
    jvm_step X1.here [X1.here.top, hx, (hb hby own_d7_3), X1.method', Bd.returns, Value.isRef, FieldType.isReference]
    first | (intro acts; rw [hr _ acts rfl rfl rfl]) | rw [hr _ _ rfl rfl rfl]
    exact Steps.refl _
  · show own_Q _ h0 n0 _ T1.heap _
    exact ⟨rfl, N0, e1⟩
set_option maxRecDepth 65536 in
set_option maxHeartbeats 40000000 in
theorem own_r2_7 (l : Launch) (Z : State) (a0 : Array Value) (hw : ∀ d ∈ tables_1, d.before a0 Z = true) (ws : List Jvm.Cond)  (c0 c1 c2 c3 c4 c5 c6 c7 c8 c9 c10 c11 c12 c13 : Addr) (h0 : Heap) (n0 : Nat) (Z0 : n0 ≤ h0.size) (K : own_W Z h0 c0 c1 c2 c3 c4 c5 c6 c7 c8 c9 c10 c11 c12 c13)  :
    MetFree l (⟨"com/example/midpoint/midpoint/rounding/Mode", "isSymmetric", "()Z"⟩ : MethodName) (head1 (Jvm.Cond.code (⟨"com/example/midpoint/midpoint/rounding/Mode", "isSymmetric", "()Z"⟩ : MethodName) prog_19_method_7_code 1 (some .boolean) :: ws) ({ frames := 1, cells := 0, slots := 0, locals := 14 } : Room)) (fun a U => a = #[(.ref c4)] ∧ Z.Warmed39 U.vm ∧ U.heap = h0) (fun _ _ _ _ _ => True) (fun _ U o U' => ∃ v L, o = .returned v ∧ own_Q (.int (1 : Int32)) h0 n0 v U'.heap L ∧ FrameEnd U o U' L ({ frames := 1, cells := 0, slots := 0, locals := 14 } : Room).cells ({ frames := 1, cells := 0, slots := 0, locals := 14 } : Room).slots) := by
  have K' := K
  obtain ⟨S0, E0, S1, E1, S2, E2, S3, E3, S4, E4, S5, E5, S6, E6, S7, E7, S8, E8, S9, E9, S10, E10, S11, E11, S12, E12, S13, E13, F0, F1, F2, F3, F4⟩ := K'
  refine MetFree.of_bodySF (plainFor_of_name own_pn2) hisR ?_
  intro p e s m args below meth c s₁ Bd hml0 hP hK
  obtain ⟨rfl, hZ, hh⟩ := hP
  have hx := Bd.exec
  have hby := Bd.bytes
  have hml : c.maxLocals = 1 := hml0
  have hown : s.vm.findClass "com/example/midpoint/midpoint/rounding/Mode" = some m.cls := findClass_of_methodNamed Bd.named
  have X0 : Stand p l e ({ frames := 1, cells := 0, slots := 0, locals := 14 } : Room) s m #[(.ref c4)] below meth c s₁ [] 0 0 := Stand.of_body Bd
  have e0 : s₁.heap = h0 := by rw [← hh, Bd.state]; rfl
  have N0 := Fr.nil n0
  have pre0 : ∀ t, Steps p.tables e below (s₁.setTop (mkF m 0 #[.val (.ref c4)] [])) t → Steps p.tables e below (s₁.setTop (entryFrame m #[(.ref c4)] 1)) t := fun t k => castTop (own_ef2 m c4) k
  obtain ⟨cq1, kq1, q1a, q1b, q1c⟩ := isOf hZ e0 E4
  obtain ⟨_, _, ⟨T1, L1, k1, n1⟩, -, X1, ⟨Lc1, hQ1, l1, y1, z1⟩, st1⟩ := X0.virtualBack hx (y := (⟨"com/example/midpoint/midpoint/rounding/Mode", "onMagnitude", "(Z)Ljava/math/RoundingMode;"⟩ : MethodName)) (z := (⟨"com/example/midpoint/midpoint/rounding/Mode$8", "onMagnitude", "(Z)Ljava/math/RoundingMode;"⟩ : MethodName)) hown (mvT hZ (hw _ (List.mem_of_getElem? (i := 13) rfl))) (mvT hZ (hw _ (List.mem_of_getElem? (i := 14) rfl))) (own_nf (args := #[]) (D := "com/example/midpoint/midpoint/rounding/Mode$1") (n := "isSymmetric") (d := "()Z") (mvT hZ (hw _ (List.mem_of_getElem? (i := 11) rfl))) (mvT hZ (hw _ (List.mem_of_getElem? (i := 9) rfl)))) (mvT hZ (hw _ (List.mem_of_getElem? (i := 50) rfl))) (mvT hZ (hw _ (List.mem_of_getElem? (i := 51) rfl))) (by decide) (backOf (W := 0) (own_r7_0 l Z a0 hw [] c0 c1 c2 c3 c4 c5 c6 c7 c8 c9 c10 c11 c12 c13 h0 n0 Z0 K) hZ (hw _ (List.mem_of_getElem? (i := 53) rfl)) (hw _ (List.mem_of_getElem? (i := 52) rfl)) (by decide) (by decide)) q1a q1c (g := (mkF m 2 #[.val (.ref c4)] [(.int (0 : Int32)), (.ref c4)])) rfl (by rw [hml]; rfl) (Steps.refl _) (argsL := [(.int (0 : Int32))]) (rest := []) (lenOf own_pd1 rfl) rfl (by show 2 * 0 + _ ≤ _; exact Nat.le_of_eq rfl) (hb hby own_d2_2) (fun _ _ => ⟨rfl, e0, (by decide : 0 + 0 ≤ _), (by decide : 0 + 0 ≤ _)⟩)
  dsimp only [Pt.U, Pt.locs, Pt.cells, Pt.slots] at X1 l1 y1 z1 st1 hQ1
  subst l1 y1 z1
  obtain ⟨rfl, N1q, e1⟩ := hQ1
  have N1 := Fr.app N0 N1q
  obtain ⟨cq2, kq2, q2a, q2b, q2c⟩ := isOf hZ e1 E4
  obtain ⟨_, _, ⟨T2, L2, k2, n2⟩, -, X2, ⟨Lc2, hQ2, l2, y2, z2⟩, st2⟩ := X1.virtualBack hx (y := (⟨"com/example/midpoint/midpoint/rounding/Mode", "onMagnitude", "(Z)Ljava/math/RoundingMode;"⟩ : MethodName)) (z := (⟨"com/example/midpoint/midpoint/rounding/Mode$8", "onMagnitude", "(Z)Ljava/math/RoundingMode;"⟩ : MethodName)) hown (mvT hZ (hw _ (List.mem_of_getElem? (i := 13) rfl))) (mvT hZ (hw _ (List.mem_of_getElem? (i := 14) rfl))) (own_nf (args := #[]) (D := "com/example/midpoint/midpoint/rounding/Mode$1") (n := "isSymmetric") (d := "()Z") (mvT hZ (hw _ (List.mem_of_getElem? (i := 11) rfl))) (mvT hZ (hw _ (List.mem_of_getElem? (i := 9) rfl)))) (mvT hZ (hw _ (List.mem_of_getElem? (i := 50) rfl))) (mvT hZ (hw _ (List.mem_of_getElem? (i := 51) rfl))) (by decide) (backOf (W := 1) (own_r7_1 l Z a0 hw [] c0 c1 c2 c3 c4 c5 c6 c7 c8 c9 c10 c11 c12 c13 h0 n0 Z0 K) hZ (hw _ (List.mem_of_getElem? (i := 53) rfl)) (hw _ (List.mem_of_getElem? (i := 52) rfl)) (by decide) (by decide)) q2a q2c (g := (mkF m 7 #[.val (.ref c4)] [(.int (1 : Int32)), (.ref c4), (.ref c11)])) rfl (by rw [hml]; rfl) (Steps.refl _) (argsL := [(.int (1 : Int32))]) (rest := [(.ref c11)]) (lenOf own_pd1 rfl) rfl (by show 2 * 0 + _ ≤ _; exact Nat.le_of_eq rfl) (hb hby own_d2_7) (fun _ _ => ⟨rfl, e1, (by decide : 0 + 0 ≤ _), (by decide : 0 + 0 ≤ _)⟩)
  dsimp only [Pt.U, Pt.locs, Pt.cells, Pt.slots] at X2 l2 y2 z2 st2 hQ2
  subst l2 y2 z2
  obtain ⟨rfl, N2q, e2⟩ := hQ2
  have N2 := Fr.app N1 N2q
  obtain ⟨fs, hr, hrun, hended, hW, hsame⟩ := X2.leave (v := some (.int (1 : Int32))) (fun h => by rw [Bd.returns] at h; cases h)
  refine ⟨_, _, pre0 _ ?_, hrun, hended, _, _, rfl, ?_, ⟨_, rfl⟩, hW, hsame.mono (by decide) (by decide)⟩
  · show Steps p.tables e below (s₁.setTop (mkF m 0 #[.val (.ref c4)] [])) _
    refine XS.aloadN X0.here hx rfl (hb hby own_d2_0) rfl rfl ?_
    show Steps p.tables e below (s₁.setTop (mkF m 1 #[.val (.ref c4)] [(.ref c4)])) _
    refine XS.iconst X0.here hx rfl (hb hby own_d2_1) ?_
    show Steps p.tables e below (s₁.setTop (mkF m 2 #[.val (.ref c4)] [(.int (0 : Int32)), (.ref c4)])) _
    refine st1.trans ?_
    show Steps p.tables e below (T1.setTop (mkF m 5 #[.val (.ref c4)] [(.ref c11)])) _
    refine XS.aloadN X1.here hx rfl (hb hby own_d2_5) rfl rfl ?_
    show Steps p.tables e below (T1.setTop (mkF m 6 #[.val (.ref c4)] [(.ref c4), (.ref c11)])) _
    refine XS.iconst X1.here hx rfl (hb hby own_d2_6) ?_
    show Steps p.tables e below (T1.setTop (mkF m 7 #[.val (.ref c4)] [(.int (1 : Int32)), (.ref c4), (.ref c11)])) _
    refine st2.trans ?_
    show Steps p.tables e below (T2.setTop (mkF m 10 #[.val (.ref c4)] [(.ref c11), (.ref c11)])) _
    refine Jvm.RoadKit.acmp (g := (mkF m 10 #[.val (.ref c4)] [(.ref c11), (.ref c11)])) X2 hx rfl rfl rfl (pc0 := 10) (pc' := 13) (same := true) rfl (hb hby own_d2_10) rfl (decide_eq_true rfl) (by decide) (by decide) ?_
    show Steps p.tables e below (T2.setTop (mkF m 13 #[.val (.ref c4)] [])) _
    refine XS.iconst X2.here hx rfl (hb hby own_d2_13) ?_
    show Steps p.tables e below (T2.setTop (mkF m 14 #[.val (.ref c4)] [(.int (1 : Int32))])) _
    refine XS.goto X2.here hx rfl (pc0 := 14) (pc' := 18) rfl (hb hby own_d2_14) (by decide) (by decide) ?_
    show Steps p.tables e below (T2.setTop (mkF m 18 #[.val (.ref c4)] [(.int (1 : Int32))])) _
    exact retN X2 hx (t := .boolean) Bd.returns (by simp) (hb hby own_d2_18) hr
  · show own_Q _ h0 n0 _ T2.heap _
    exact ⟨rfl, N2, e2⟩
set_option maxRecDepth 65536 in
set_option maxHeartbeats 40000000 in
theorem own_r0_7 (l : Launch) (Z : State) (a0 : Array Value) (hw : ∀ d ∈ tables_1, d.before a0 Z = true) (ws : List Jvm.Cond) (p0 : Int32) (c0 c1 c2 c3 c4 c5 c6 c7 c8 c9 c10 c11 c12 c13 : Addr) (h0 : Heap) (n0 : Nat) (Z0 : n0 ≤ h0.size) (K : own_W Z h0 c0 c1 c2 c3 c4 c5 c6 c7 c8 c9 c10 c11 c12 c13) (hk0 : ((p0 &&& (2147483647 : Int32)) % (9 : Int32)) = (7 : Int32)) :
    MetFree l x (head1 (Jvm.Cond.code x code maxLocals ret :: ws) room_1) (fun a U => a = #[(.int p0)] ∧ Z.Warmed39 U.vm ∧ U.heap = h0) (fun _ _ _ _ _ => True) (fun _ U o U' => ∃ v L, o = .returned v ∧ own_Q (.int (1 : Int32)) h0 n0 v U'.heap L ∧ FrameEnd U o U' L room_1.cells room_1.slots) := by
  have K' := K
  obtain ⟨S0, E0, S1, E1, S2, E2, S3, E3, S4, E4, S5, E5, S6, E6, S7, E7, S8, E8, S9, E9, S10, E10, S11, E11, S12, E12, S13, E13, F0, F1, F2, F3, F4⟩ := K'
  refine MetFree.of_bodySF (plainFor_of_name own_pn0) hisR ?_
  intro p e s m args below meth c s₁ Bd hml0 hP hK
  obtain ⟨rfl, hZ, hh⟩ := hP
  have hx := Bd.exec
  have hby := Bd.bytes
  have hml : c.maxLocals = 4 := hml0
  have hown : s.vm.findClass "com/example/midpoint/midpoint/rounding/ModeIsSymmetricPinLaw" = some m.cls := findClass_of_methodNamed Bd.named
  have X0 : Stand p l e room_1 s m #[(.int p0)] below meth c s₁ [] 0 0 := Stand.of_body Bd
  have e0 : s₁.heap = h0 := by rw [← hh, Bd.state]; rfl
  have N0 := Fr.nil n0
  have pre0 : ∀ t, Steps p.tables e below (s₁.setTop (mkF m 0 #[.val (.int p0), .unset, .unset, .unset] [])) t → Steps p.tables e below (s₁.setTop (entryFrame m #[(.int p0)] maxLocals)) t := fun t k => castTop (own_ef0 m p0) k
  obtain ⟨_, _, ⟨T1, L1, k1, n1⟩, -, X1, ⟨Lc1, hQ1, l1, y1, z1⟩, st1⟩ := Jvm.LawKit.callS X0 hx (y := (⟨"com/example/midpoint/midpoint/rounding/ModeIsSymmetricPinLaw", "modeAt", "(I)Lcom/example/midpoint/midpoint/rounding/Mode;"⟩ : MethodName)) hown (mvT hZ (hw _ (List.mem_of_getElem? (i := 1) rfl))) (mvT hZ (hw _ (List.mem_of_getElem? (i := 2) rfl))) (mvT hZ (hw _ (List.mem_of_getElem? (i := 3) rfl))) (mvT hZ (hw _ (List.mem_of_getElem? (i := 4) rfl))) (by decide) (backOf (W := 0) (own_r1_7 l Z a0 hw [] c0 c1 c2 c3 c4 c5 c6 c7 c8 c9 c10 c11 c12 c13 h0 n0 Z0 K) hZ (hw _ (List.mem_of_getElem? (i := 4) rfl)) (hw _ (List.mem_of_getElem? (i := 3) rfl)) (by decide) (by decide)) (g := (mkF m 9 #[.val (.int p0), .val (.int (7 : Int32)), .unset, .unset] [(.int (7 : Int32))])) rfl (by rw [hml]; rfl) (argsL := [(.int (7 : Int32))]) (rest := []) (lenOf own_pd0 rfl) rfl (by show 2 * 0 + _ ≤ _; exact Nat.le_of_eq rfl) (hb hby at_9) (fun _ _ => ⟨rfl, e0, (by decide : 0 + 0 ≤ _), (by decide : 0 + 0 ≤ _)⟩)
  dsimp only [Pt.U, Pt.locs, Pt.cells, Pt.slots] at X1 l1 y1 z1 st1 hQ1
  subst l1 y1 z1
  obtain ⟨rfl, N1q, e1⟩ := hQ1
  have N1 := Fr.app N0 N1q
  obtain ⟨cq2, kq2, q2a, q2b, q2c⟩ := isOf hZ e1 E4
  obtain ⟨_, _, ⟨T2, L2, k2, n2⟩, -, X2, ⟨Lc2, hQ2, l2, y2, z2⟩, st2⟩ := X1.virtualBack hx (y := (⟨"com/example/midpoint/midpoint/rounding/Mode", "isSymmetric", "()Z"⟩ : MethodName)) (z := (⟨"com/example/midpoint/midpoint/rounding/Mode", "isSymmetric", "()Z"⟩ : MethodName)) hown (mvT hZ (hw _ (List.mem_of_getElem? (i := 8) rfl))) (mvT hZ (hw _ (List.mem_of_getElem? (i := 9) rfl))) (notFace_of_selects (args := #[]) (mvT hZ (hw _ (List.mem_of_getElem? (i := 49) rfl)))) (mvT hZ (hw _ (List.mem_of_getElem? (i := 49) rfl))) (mvT hZ (hw _ (List.mem_of_getElem? (i := 10) rfl))) (by decide) (backOf (W := 0) (own_r2_7 l Z a0 hw [] c0 c1 c2 c3 c4 c5 c6 c7 c8 c9 c10 c11 c12 c13 h0 n0 Z0 K) hZ (hw _ (List.mem_of_getElem? (i := 12) rfl)) (hw _ (List.mem_of_getElem? (i := 6) rfl)) (by decide) (by decide)) q2a q2c (g := (mkF m 48 #[.val (.int p0), .val (.int (7 : Int32)), .val (.ref c4), .val (.int (1 : Int32))] [(.ref c4)])) rfl (by rw [hml]; rfl) (Steps.refl _) (argsL := []) (rest := []) (lenOf own_pd2 rfl) rfl (by show 2 * 0 + _ ≤ _; exact Nat.le_of_eq rfl) (hb hby at_48) (fun _ _ => ⟨rfl, e1, (by decide : 0 + 0 ≤ _), (by decide : 0 + 0 ≤ _)⟩)
  dsimp only [Pt.U, Pt.locs, Pt.cells, Pt.slots] at X2 l2 y2 z2 st2 hQ2
  subst l2 y2 z2
  obtain ⟨rfl, N2q, e2⟩ := hQ2
  have N2 := Fr.app N1 N2q
  obtain ⟨fs, hr, hrun, hended, hW, hsame⟩ := X2.leave (v := some (.int (1 : Int32))) (fun h => by rw [Bd.returns] at h; cases h)
  refine ⟨_, _, pre0 _ ?_, hrun, hended, _, _, rfl, ?_, ⟨_, rfl⟩, hW, hsame.mono (by decide) (by decide)⟩
  · show Steps p.tables e below (s₁.setTop (mkF m 0 #[.val (.int p0), .unset, .unset, .unset] [])) _
    refine XS.iloadN X0.here hx rfl (hb hby at_0) rfl ?_
    show Steps p.tables e below (s₁.setTop (mkF m 1 #[.val (.int p0), .unset, .unset, .unset] [(.int p0)])) _
    refine X0.ldcInt hx hown (mvT hZ (hw _ (List.mem_of_getElem? (i := 0) rfl))) (g := (mkF m 1 #[.val (.int p0), .unset, .unset, .unset] [(.int p0)])) rfl (hb hby at_1) _ ?_
    show Steps p.tables e below (s₁.setTop (mkF m 3 #[.val (.int p0), .unset, .unset, .unset] [(.int (2147483647 : Int32)), (.int p0)])) _
    refine XS.iand X0.here hx rfl (hb hby at_3) rfl ?_
    show Steps p.tables e below (s₁.setTop (mkF m 4 #[.val (.int p0), .unset, .unset, .unset] [(.int (p0 &&& (2147483647 : Int32)))])) _
    refine XS.bipush X0.here hx rfl (hb hby at_4) ?_
    show Steps p.tables e below (s₁.setTop (mkF m 6 #[.val (.int p0), .unset, .unset, .unset] [(.int (9 : Int32)), (.int (p0 &&& (2147483647 : Int32)))])) _
    refine iremM X0 hx rfl (hb hby at_6) rfl (by decide) ?_
    show Steps p.tables e below (s₁.setTop (mkF m 7 #[.val (.int p0), .unset, .unset, .unset] [(.int ((p0 &&& (2147483647 : Int32)) % (9 : Int32)))])) _
    rw [hk0]
    show Steps p.tables e below (s₁.setTop (mkF m 7 #[.val (.int p0), .unset, .unset, .unset] [(.int (7 : Int32))])) _
    refine XS.istoreN X0.here hx rfl (hb hby at_7) rfl (l' := #[.val (.int p0), .val (.int (7 : Int32)), .unset, .unset]) rfl ?_
    show Steps p.tables e below (s₁.setTop (mkF m 8 #[.val (.int p0), .val (.int (7 : Int32)), .unset, .unset] [])) _
    refine XS.iloadN X0.here hx rfl (hb hby at_8) rfl ?_
    show Steps p.tables e below (s₁.setTop (mkF m 9 #[.val (.int p0), .val (.int (7 : Int32)), .unset, .unset] [(.int (7 : Int32))])) _
    refine st1 _ ?_
    show Steps p.tables e below (T1.setTop (mkF m 12 #[.val (.int p0), .val (.int (7 : Int32)), .unset, .unset] [(.ref c4)])) _
    refine XS.astoreN X1.here hx rfl (hb hby at_12) rfl rfl (l' := #[.val (.int p0), .val (.int (7 : Int32)), .val (.ref c4), .unset]) rfl ?_
    show Steps p.tables e below (T1.setTop (mkF m 13 #[.val (.int p0), .val (.int (7 : Int32)), .val (.ref c4), .unset] [])) _
    refine XS.iloadN X1.here hx rfl (hb hby at_13) rfl ?_
    show Steps p.tables e below (T1.setTop (mkF m 14 #[.val (.int p0), .val (.int (7 : Int32)), .val (.ref c4), .unset] [(.int (7 : Int32))])) _
    refine XS.iconst X1.here hx rfl (hb hby at_14) ?_
    show Steps p.tables e below (T1.setTop (mkF m 15 #[.val (.int p0), .val (.int (7 : Int32)), .val (.ref c4), .unset] [(.int (2 : Int32)), (.int (7 : Int32))])) _
    refine XS.icmpNo X1.here hx rfl (hb hby at_15) rfl (feq (by decide : ¬ ((7 : Int32) = (2 : Int32)))).1 ?_
    show Steps p.tables e below (T1.setTop (mkF m 18 #[.val (.int p0), .val (.int (7 : Int32)), .val (.ref c4), .unset] [])) _
    refine XS.iloadN X1.here hx rfl (hb hby at_18) rfl ?_
    show Steps p.tables e below (T1.setTop (mkF m 19 #[.val (.int p0), .val (.int (7 : Int32)), .val (.ref c4), .unset] [(.int (7 : Int32))])) _
    refine XS.iconst X1.here hx rfl (hb hby at_19) ?_
    show Steps p.tables e below (T1.setTop (mkF m 20 #[.val (.int p0), .val (.int (7 : Int32)), .val (.ref c4), .unset] [(.int (3 : Int32)), (.int (7 : Int32))])) _
    refine XS.icmpNo X1.here hx rfl (hb hby at_20) rfl (feq (by decide : ¬ ((7 : Int32) = (3 : Int32)))).1 ?_
    show Steps p.tables e below (T1.setTop (mkF m 23 #[.val (.int p0), .val (.int (7 : Int32)), .val (.ref c4), .unset] [])) _
    refine XS.iloadN X1.here hx rfl (hb hby at_23) rfl ?_
    show Steps p.tables e below (T1.setTop (mkF m 24 #[.val (.int p0), .val (.int (7 : Int32)), .val (.ref c4), .unset] [(.int (7 : Int32))])) _
    refine XS.bipush X1.here hx rfl (hb hby at_24) ?_
    show Steps p.tables e below (T1.setTop (mkF m 26 #[.val (.int p0), .val (.int (7 : Int32)), .val (.ref c4), .unset] [(.int (6 : Int32)), (.int (7 : Int32))])) _
    refine XS.icmpNo X1.here hx rfl (hb hby at_26) rfl (feq (by decide : ¬ ((7 : Int32) = (6 : Int32)))).1 ?_
    show Steps p.tables e below (T1.setTop (mkF m 29 #[.val (.int p0), .val (.int (7 : Int32)), .val (.ref c4), .unset] [])) _
    refine XS.iloadN X1.here hx rfl (hb hby at_29) rfl ?_
    show Steps p.tables e below (T1.setTop (mkF m 30 #[.val (.int p0), .val (.int (7 : Int32)), .val (.ref c4), .unset] [(.int (7 : Int32))])) _
    refine XS.bipush X1.here hx rfl (hb hby at_30) ?_
    show Steps p.tables e below (T1.setTop (mkF m 32 #[.val (.int p0), .val (.int (7 : Int32)), .val (.ref c4), .unset] [(.int (7 : Int32)), (.int (7 : Int32))])) _
    refine XS.icmpYes X1.here hx rfl (pc0 := 32) (pc' := 41) rfl (hb hby at_32) rfl (teq (by decide : (7 : Int32) = (7 : Int32))).1 (by decide) (by decide) ?_
    show Steps p.tables e below (T1.setTop (mkF m 41 #[.val (.int p0), .val (.int (7 : Int32)), .val (.ref c4), .unset] [])) _
    refine XS.iconst X1.here hx rfl (hb hby at_41) ?_
    show Steps p.tables e below (T1.setTop (mkF m 42 #[.val (.int p0), .val (.int (7 : Int32)), .val (.ref c4), .unset] [(.int (1 : Int32))])) _
    refine XS.goto X1.here hx rfl (pc0 := 42) (pc' := 46) rfl (hb hby at_42) (by decide) (by decide) ?_
    show Steps p.tables e below (T1.setTop (mkF m 46 #[.val (.int p0), .val (.int (7 : Int32)), .val (.ref c4), .unset] [(.int (1 : Int32))])) _
    refine XS.istoreN X1.here hx rfl (hb hby at_46) rfl (l' := #[.val (.int p0), .val (.int (7 : Int32)), .val (.ref c4), .val (.int (1 : Int32))]) rfl ?_
    show Steps p.tables e below (T1.setTop (mkF m 47 #[.val (.int p0), .val (.int (7 : Int32)), .val (.ref c4), .val (.int (1 : Int32))] [])) _
    refine XS.aloadN X1.here hx rfl (hb hby at_47) rfl rfl ?_
    show Steps p.tables e below (T1.setTop (mkF m 48 #[.val (.int p0), .val (.int (7 : Int32)), .val (.ref c4), .val (.int (1 : Int32))] [(.ref c4)])) _
    refine st2.trans ?_
    show Steps p.tables e below (T2.setTop (mkF m 51 #[.val (.int p0), .val (.int (7 : Int32)), .val (.ref c4), .val (.int (1 : Int32))] [(.int (1 : Int32))])) _
    refine XS.iloadN X2.here hx rfl (hb hby at_51) rfl ?_
    show Steps p.tables e below (T2.setTop (mkF m 52 #[.val (.int p0), .val (.int (7 : Int32)), .val (.ref c4), .val (.int (1 : Int32))] [(.int (1 : Int32)), (.int (1 : Int32))])) _
    refine XS.icmpNo X2.here hx rfl (hb hby at_52) rfl (teq (by decide : (1 : Int32) = (1 : Int32))).2 ?_
    show Steps p.tables e below (T2.setTop (mkF m 55 #[.val (.int p0), .val (.int (7 : Int32)), .val (.ref c4), .val (.int (1 : Int32))] [])) _
    refine XS.iconst X2.here hx rfl (hb hby at_55) ?_
    show Steps p.tables e below (T2.setTop (mkF m 56 #[.val (.int p0), .val (.int (7 : Int32)), .val (.ref c4), .val (.int (1 : Int32))] [(.int (1 : Int32))])) _
    refine XS.goto X2.here hx rfl (pc0 := 56) (pc' := 60) rfl (hb hby at_56) (by decide) (by decide) ?_
    show Steps p.tables e below (T2.setTop (mkF m 60 #[.val (.int p0), .val (.int (7 : Int32)), .val (.ref c4), .val (.int (1 : Int32))] [(.int (1 : Int32))])) _
    exact retN X2 hx (t := .boolean) Bd.returns (by simp) (hb hby at_60) hr
  · show own_Q _ h0 n0 _ T2.heap _
    exact ⟨rfl, N2, e2⟩
theorem own_d1_73 : decode method_3_code 73 = .ok (.getstatic 45, 3) := by decide +kernel
theorem own_d1_76 : decode method_3_code 76 = .ok (.areturn, 1) := by decide +kernel
set_option maxRecDepth 65536 in
set_option maxHeartbeats 40000000 in
theorem own_r1_8 (l : Launch) (Z : State) (a0 : Array Value) (hw : ∀ d ∈ tables_1, d.before a0 Z = true) (ws : List Jvm.Cond)  (c0 c1 c2 c3 c4 c5 c6 c7 c8 c9 c10 c11 c12 c13 : Addr) (h0 : Heap) (n0 : Nat) (Z0 : n0 ≤ h0.size) (K : own_W Z h0 c0 c1 c2 c3 c4 c5 c6 c7 c8 c9 c10 c11 c12 c13)  :
    MetFree l (⟨"com/example/midpoint/midpoint/rounding/ModeIsSymmetricPinLaw", "modeAt", "(I)Lcom/example/midpoint/midpoint/rounding/Mode;"⟩ : MethodName) (head1 (Jvm.Cond.code (⟨"com/example/midpoint/midpoint/rounding/ModeIsSymmetricPinLaw", "modeAt", "(I)Lcom/example/midpoint/midpoint/rounding/Mode;"⟩ : MethodName) method_3_code 1 (some (.object "com/example/midpoint/midpoint/rounding/Mode")) :: ws) ({ frames := 0, cells := 0, slots := 0, locals := 0 } : Room)) (fun a U => a = #[(.int (8 : Int32))] ∧ Z.Warmed39 U.vm ∧ U.heap = h0) (fun _ _ _ _ _ => True) (fun _ U o U' => ∃ v L, o = .returned v ∧ own_Q (.ref c6) h0 n0 v U'.heap L ∧ FrameEnd U o U' L ({ frames := 0, cells := 0, slots := 0, locals := 0 } : Room).cells ({ frames := 0, cells := 0, slots := 0, locals := 0 } : Room).slots) := by
  have K' := K
  obtain ⟨S0, E0, S1, E1, S2, E2, S3, E3, S4, E4, S5, E5, S6, E6, S7, E7, S8, E8, S9, E9, S10, E10, S11, E11, S12, E12, S13, E13, F0, F1, F2, F3, F4⟩ := K'
  refine MetFree.of_bodySF (plainFor_of_name own_pn0) hisR ?_
  intro p e s m args below meth c s₁ Bd hml0 hP hK
  obtain ⟨rfl, hZ, hh⟩ := hP
  have hx := Bd.exec
  have hby := Bd.bytes
  have hml : c.maxLocals = 1 := hml0
  have hown : s.vm.findClass "com/example/midpoint/midpoint/rounding/ModeIsSymmetricPinLaw" = some m.cls := findClass_of_methodNamed Bd.named
  have X0 : Stand p l e ({ frames := 0, cells := 0, slots := 0, locals := 0 } : Room) s m #[(.int (8 : Int32))] below meth c s₁ [] 0 0 := Stand.of_body Bd
  have e0 : s₁.heap = h0 := by rw [← hh, Bd.state]; rfl
  have N0 := Fr.nil n0
  have pre0 : ∀ t, Steps p.tables e below (s₁.setTop (mkF m 0 #[.val (.int (8 : Int32))] [])) t → Steps p.tables e below (s₁.setTop (entryFrame m #[(.int (8 : Int32))] 1)) t := fun t k => castTop (own_ef1 m (8 : Int32)) k
  obtain ⟨T1, X1, e1, st1⟩ := getS2 X0 hx hZ hown (host := "") (Or.inl (hw _ (List.mem_of_getElem? (i := 64) rfl))) Via.refl e0 S6 (g := (mkF m 73 #[.val (.int (8 : Int32))] [])) rfl (hb hby own_d1_73)
  obtain ⟨fs, hr, hrun, hended, hW, hsame⟩ := X1.leave (v := some (.ref c6)) (fun h => by rw [Bd.returns] at h; cases h)
  refine ⟨_, _, pre0 _ ?_, hrun, hended, _, _, rfl, ?_, ⟨_, rfl⟩, hW, hsame.mono (by decide) (by decide)⟩
  · show Steps p.tables e below (s₁.setTop (mkF m 0 #[.val (.int (8 : Int32))] [])) _
    refine XS.iloadN X0.here hx rfl (hb hby own_d1_0) rfl ?_
    show Steps p.tables e below (s₁.setTop (mkF m 1 #[.val (.int (8 : Int32))] [(.int (8 : Int32))])) _
    refine XS.ifYes X0.here hx rfl (pc0 := 1) (pc' := 8) rfl (hb hby own_d1_1) rfl ((if0 _ _).trans (feq (by decide : ¬ ((8 : Int32) = (0 : Int32)))).2) (by decide) (by decide) ?_
    show Steps p.tables e below (s₁.setTop (mkF m 8 #[.val (.int (8 : Int32))] [])) _
    refine XS.iloadN X0.here hx rfl (hb hby own_d1_8) rfl ?_
    show Steps p.tables e below (s₁.setTop (mkF m 9 #[.val (.int (8 : Int32))] [(.int (8 : Int32))])) _
    refine XS.iconst X0.here hx rfl (hb hby own_d1_9) ?_
    show Steps p.tables e below (s₁.setTop (mkF m 10 #[.val (.int (8 : Int32))] [(.int (1 : Int32)), (.int (8 : Int32))])) _
    refine XS.icmpYes X0.here hx rfl (pc0 := 10) (pc' := 17) rfl (hb hby own_d1_10) rfl (feq (by decide : ¬ ((8 : Int32) = (1 : Int32)))).2 (by decide) (by decide) ?_
    show Steps p.tables e below (s₁.setTop (mkF m 17 #[.val (.int (8 : Int32))] [])) _
    refine XS.iloadN X0.here hx rfl (hb hby own_d1_17) rfl ?_
    show Steps p.tables e below (s₁.setTop (mkF m 18 #[.val (.int (8 : Int32))] [(.int (8 : Int32))])) _
    refine XS.iconst X0.here hx rfl (hb hby own_d1_18) ?_
    show Steps p.tables e below (s₁.setTop (mkF m 19 #[.val (.int (8 : Int32))] [(.int (2 : Int32)), (.int (8 : Int32))])) _
    refine XS.icmpYes X0.here hx rfl (pc0 := 19) (pc' := 26) rfl (hb hby own_d1_19) rfl (feq (by decide : ¬ ((8 : Int32) = (2 : Int32)))).2 (by decide) (by decide) ?_
    show Steps p.tables e below (s₁.setTop (mkF m 26 #[.val (.int (8 : Int32))] [])) _
    refine XS.iloadN X0.here hx rfl (hb hby own_d1_26) rfl ?_
    show Steps p.tables e below (s₁.setTop (mkF m 27 #[.val (.int (8 : Int32))] [(.int (8 : Int32))])) _
    refine XS.iconst X0.here hx rfl (hb hby own_d1_27) ?_
    show Steps p.tables e below (s₁.setTop (mkF m 28 #[.val (.int (8 : Int32))] [(.int (3 : Int32)), (.int (8 : Int32))])) _
    refine XS.icmpYes X0.here hx rfl (pc0 := 28) (pc' := 35) rfl (hb hby own_d1_28) rfl (feq (by decide : ¬ ((8 : Int32) = (3 : Int32)))).2 (by decide) (by decide) ?_
    show Steps p.tables e below (s₁.setTop (mkF m 35 #[.val (.int (8 : Int32))] [])) _
    refine XS.iloadN X0.here hx rfl (hb hby own_d1_35) rfl ?_
    show Steps p.tables e below (s₁.setTop (mkF m 36 #[.val (.int (8 : Int32))] [(.int (8 : Int32))])) _
    refine XS.iconst X0.here hx rfl (hb hby own_d1_36) ?_
    show Steps p.tables e below (s₁.setTop (mkF m 37 #[.val (.int (8 : Int32))] [(.int (4 : Int32)), (.int (8 : Int32))])) _
    refine XS.icmpYes X0.here hx rfl (pc0 := 37) (pc' := 44) rfl (hb hby own_d1_37) rfl (feq (by decide : ¬ ((8 : Int32) = (4 : Int32)))).2 (by decide) (by decide) ?_
    show Steps p.tables e below (s₁.setTop (mkF m 44 #[.val (.int (8 : Int32))] [])) _
    refine XS.iloadN X0.here hx rfl (hb hby own_d1_44) rfl ?_
    show Steps p.tables e below (s₁.setTop (mkF m 45 #[.val (.int (8 : Int32))] [(.int (8 : Int32))])) _
    refine XS.iconst X0.here hx rfl (hb hby own_d1_45) ?_
    show Steps p.tables e below (s₁.setTop (mkF m 46 #[.val (.int (8 : Int32))] [(.int (5 : Int32)), (.int (8 : Int32))])) _
    refine XS.icmpYes X0.here hx rfl (pc0 := 46) (pc' := 53) rfl (hb hby own_d1_46) rfl (feq (by decide : ¬ ((8 : Int32) = (5 : Int32)))).2 (by decide) (by decide) ?_
    show Steps p.tables e below (s₁.setTop (mkF m 53 #[.val (.int (8 : Int32))] [])) _
    refine XS.iloadN X0.here hx rfl (hb hby own_d1_53) rfl ?_
    show Steps p.tables e below (s₁.setTop (mkF m 54 #[.val (.int (8 : Int32))] [(.int (8 : Int32))])) _
    refine XS.bipush X0.here hx rfl (hb hby own_d1_54) ?_
    show Steps p.tables e below (s₁.setTop (mkF m 56 #[.val (.int (8 : Int32))] [(.int (6 : Int32)), (.int (8 : Int32))])) _
    refine XS.icmpYes X0.here hx rfl (pc0 := 56) (pc' := 63) rfl (hb hby own_d1_56) rfl (feq (by decide : ¬ ((8 : Int32) = (6 : Int32)))).2 (by decide) (by decide) ?_
    show Steps p.tables e below (s₁.setTop (mkF m 63 #[.val (.int (8 : Int32))] [])) _
    refine XS.iloadN X0.here hx rfl (hb hby own_d1_63) rfl ?_
    show Steps p.tables e below (s₁.setTop (mkF m 64 #[.val (.int (8 : Int32))] [(.int (8 : Int32))])) _
    refine XS.bipush X0.here hx rfl (hb hby own_d1_64) ?_
    show Steps p.tables e below (s₁.setTop (mkF m 66 #[.val (.int (8 : Int32))] [(.int (7 : Int32)), (.int (8 : Int32))])) _
    refine XS.icmpYes X0.here hx rfl (pc0 := 66) (pc' := 73) rfl (hb hby own_d1_66) rfl (feq (by decide : ¬ ((8 : Int32) = (7 : Int32)))).2 (by decide) (by decide) ?_
    show Steps p.tables e below (s₁.setTop (mkF m 73 #[.val (.int (8 : Int32))] [])) _
    refine st1 _ ?_
    show Steps p.tables e below (T1.setTop (mkF m 76 #[.val (.int (8 : Int32))] [(.ref c6)])) _
    jvm_step X1.here [X1.here.top, hx, (hb hby own_d1_76), X1.method', Bd.returns, Value.isRef, FieldType.isReference]
    first | (intro acts; rw [hr _ acts rfl rfl rfl]) | rw [hr _ _ rfl rfl rfl]
    exact Steps.refl _
  · show own_Q _ h0 n0 _ T1.heap _
    exact ⟨rfl, N0, e1⟩
theorem own_d9_0 : decode prog_28_method_2_code 0 = .ok (.getstatic 7, 3) := by decide +kernel
theorem own_d9_3 : decode prog_28_method_2_code 3 = .ok (.areturn, 1) := by decide +kernel
theorem own_pn10 : plainName "com/example/midpoint/midpoint/rounding/Mode$9" = true := by first | (simp [plainName, overriddenIn]; done) | decide +kernel
theorem own_ef9 (m : MethodId) (x0 : Addr) (x1 : Int32) : entryFrame m #[(.ref x0), (.int x1)] 2 = mkF m 0 #[.val (.ref x0), .val (.int x1)] [] := by first | (simp [entryFrame, mkF, argsToLocals, Value.category]; done) | rfl
set_option maxRecDepth 65536 in
set_option maxHeartbeats 40000000 in
theorem own_r9_0 (l : Launch) (Z : State) (a0 : Array Value) (hw : ∀ d ∈ tables_1, d.before a0 Z = true) (ws : List Jvm.Cond)  (c0 c1 c2 c3 c4 c5 c6 c7 c8 c9 c10 c11 c12 c13 : Addr) (h0 : Heap) (n0 : Nat) (Z0 : n0 ≤ h0.size) (K : own_W Z h0 c0 c1 c2 c3 c4 c5 c6 c7 c8 c9 c10 c11 c12 c13)  :
    MetFree l (⟨"com/example/midpoint/midpoint/rounding/Mode$9", "onMagnitude", "(Z)Ljava/math/RoundingMode;"⟩ : MethodName) (head1 (Jvm.Cond.code (⟨"com/example/midpoint/midpoint/rounding/Mode$9", "onMagnitude", "(Z)Ljava/math/RoundingMode;"⟩ : MethodName) prog_28_method_2_code 2 (some (.object "java/math/RoundingMode")) :: ws) ({ frames := 0, cells := 0, slots := 0, locals := 0 } : Room)) (fun a U => a = #[(.ref c6), (.int (0 : Int32))] ∧ Z.Warmed39 U.vm ∧ U.heap = h0) (fun _ _ _ _ _ => True) (fun _ U o U' => ∃ v L, o = .returned v ∧ own_Q (.ref c13) h0 n0 v U'.heap L ∧ FrameEnd U o U' L ({ frames := 0, cells := 0, slots := 0, locals := 0 } : Room).cells ({ frames := 0, cells := 0, slots := 0, locals := 0 } : Room).slots) := by
  have K' := K
  obtain ⟨S0, E0, S1, E1, S2, E2, S3, E3, S4, E4, S5, E5, S6, E6, S7, E7, S8, E8, S9, E9, S10, E10, S11, E11, S12, E12, S13, E13, F0, F1, F2, F3, F4⟩ := K'
  refine MetFree.of_bodySF (plainFor_of_name own_pn10) hisR ?_
  intro p e s m args below meth c s₁ Bd hml0 hP hK
  obtain ⟨rfl, hZ, hh⟩ := hP
  have hx := Bd.exec
  have hby := Bd.bytes
  have hml : c.maxLocals = 2 := hml0
  have hown : s.vm.findClass "com/example/midpoint/midpoint/rounding/Mode$9" = some m.cls := findClass_of_methodNamed Bd.named
  have X0 : Stand p l e ({ frames := 0, cells := 0, slots := 0, locals := 0 } : Room) s m #[(.ref c6), (.int (0 : Int32))] below meth c s₁ [] 0 0 := Stand.of_body Bd
  have e0 : s₁.heap = h0 := by rw [← hh, Bd.state]; rfl
  have N0 := Fr.nil n0
  have pre0 : ∀ t, Steps p.tables e below (s₁.setTop (mkF m 0 #[.val (.ref c6), .val (.int (0 : Int32))] [])) t → Steps p.tables e below (s₁.setTop (entryFrame m #[(.ref c6), (.int (0 : Int32))] 2)) t := fun t k => castTop (own_ef9 m c6 (0 : Int32)) k
  obtain ⟨T1, X1, e1, st1⟩ := getS2 X0 hx hZ hown (host := "") (Or.inl (hw _ (List.mem_of_getElem? (i := 71) rfl))) Via.refl e0 S13 (g := (mkF m 0 #[.val (.ref c6), .val (.int (0 : Int32))] [])) rfl (hb hby own_d9_0)
  obtain ⟨fs, hr, hrun, hended, hW, hsame⟩ := X1.leave (v := some (.ref c13)) (fun h => by rw [Bd.returns] at h; cases h)
  refine ⟨_, _, pre0 _ ?_, hrun, hended, _, _, rfl, ?_, ⟨_, rfl⟩, hW, hsame.mono (by decide) (by decide)⟩
  · show Steps p.tables e below (s₁.setTop (mkF m 0 #[.val (.ref c6), .val (.int (0 : Int32))] [])) _
    refine st1 _ ?_
    show Steps p.tables e below (T1.setTop (mkF m 3 #[.val (.ref c6), .val (.int (0 : Int32))] [(.ref c13)])) _
    jvm_step X1.here [X1.here.top, hx, (hb hby own_d9_3), X1.method', Bd.returns, Value.isRef, FieldType.isReference]
    first | (intro acts; rw [hr _ acts rfl rfl rfl]) | rw [hr _ _ rfl rfl rfl]
    exact Steps.refl _
  · show own_Q _ h0 n0 _ T1.heap _
    exact ⟨rfl, N0, e1⟩
set_option maxRecDepth 65536 in
set_option maxHeartbeats 40000000 in
theorem own_r9_1 (l : Launch) (Z : State) (a0 : Array Value) (hw : ∀ d ∈ tables_1, d.before a0 Z = true) (ws : List Jvm.Cond)  (c0 c1 c2 c3 c4 c5 c6 c7 c8 c9 c10 c11 c12 c13 : Addr) (h0 : Heap) (n0 : Nat) (Z0 : n0 ≤ h0.size) (K : own_W Z h0 c0 c1 c2 c3 c4 c5 c6 c7 c8 c9 c10 c11 c12 c13)  :
    MetFree l (⟨"com/example/midpoint/midpoint/rounding/Mode$9", "onMagnitude", "(Z)Ljava/math/RoundingMode;"⟩ : MethodName) (head1 (Jvm.Cond.code (⟨"com/example/midpoint/midpoint/rounding/Mode$9", "onMagnitude", "(Z)Ljava/math/RoundingMode;"⟩ : MethodName) prog_28_method_2_code 2 (some (.object "java/math/RoundingMode")) :: ws) ({ frames := 0, cells := 0, slots := 0, locals := 0 } : Room)) (fun a U => a = #[(.ref c6), (.int (1 : Int32))] ∧ Z.Warmed39 U.vm ∧ U.heap = h0) (fun _ _ _ _ _ => True) (fun _ U o U' => ∃ v L, o = .returned v ∧ own_Q (.ref c13) h0 n0 v U'.heap L ∧ FrameEnd U o U' L ({ frames := 0, cells := 0, slots := 0, locals := 0 } : Room).cells ({ frames := 0, cells := 0, slots := 0, locals := 0 } : Room).slots) := by
  have K' := K
  obtain ⟨S0, E0, S1, E1, S2, E2, S3, E3, S4, E4, S5, E5, S6, E6, S7, E7, S8, E8, S9, E9, S10, E10, S11, E11, S12, E12, S13, E13, F0, F1, F2, F3, F4⟩ := K'
  refine MetFree.of_bodySF (plainFor_of_name own_pn10) hisR ?_
  intro p e s m args below meth c s₁ Bd hml0 hP hK
  obtain ⟨rfl, hZ, hh⟩ := hP
  have hx := Bd.exec
  have hby := Bd.bytes
  have hml : c.maxLocals = 2 := hml0
  have hown : s.vm.findClass "com/example/midpoint/midpoint/rounding/Mode$9" = some m.cls := findClass_of_methodNamed Bd.named
  have X0 : Stand p l e ({ frames := 0, cells := 0, slots := 0, locals := 0 } : Room) s m #[(.ref c6), (.int (1 : Int32))] below meth c s₁ [] 0 0 := Stand.of_body Bd
  have e0 : s₁.heap = h0 := by rw [← hh, Bd.state]; rfl
  have N0 := Fr.nil n0
  have pre0 : ∀ t, Steps p.tables e below (s₁.setTop (mkF m 0 #[.val (.ref c6), .val (.int (1 : Int32))] [])) t → Steps p.tables e below (s₁.setTop (entryFrame m #[(.ref c6), (.int (1 : Int32))] 2)) t := fun t k => castTop (own_ef9 m c6 (1 : Int32)) k
  obtain ⟨T1, X1, e1, st1⟩ := getS2 X0 hx hZ hown (host := "") (Or.inl (hw _ (List.mem_of_getElem? (i := 71) rfl))) Via.refl e0 S13 (g := (mkF m 0 #[.val (.ref c6), .val (.int (1 : Int32))] [])) rfl (hb hby own_d9_0)
  obtain ⟨fs, hr, hrun, hended, hW, hsame⟩ := X1.leave (v := some (.ref c13)) (fun h => by rw [Bd.returns] at h; cases h)
  refine ⟨_, _, pre0 _ ?_, hrun, hended, _, _, rfl, ?_, ⟨_, rfl⟩, hW, hsame.mono (by decide) (by decide)⟩
  · show Steps p.tables e below (s₁.setTop (mkF m 0 #[.val (.ref c6), .val (.int (1 : Int32))] [])) _
    refine st1 _ ?_
    show Steps p.tables e below (T1.setTop (mkF m 3 #[.val (.ref c6), .val (.int (1 : Int32))] [(.ref c13)])) _
    jvm_step X1.here [X1.here.top, hx, (hb hby own_d9_3), X1.method', Bd.returns, Value.isRef, FieldType.isReference]
    first | (intro acts; rw [hr _ acts rfl rfl rfl]) | rw [hr _ _ rfl rfl rfl]
    exact Steps.refl _
  · show own_Q _ h0 n0 _ T1.heap _
    exact ⟨rfl, N0, e1⟩
set_option maxRecDepth 65536 in
set_option maxHeartbeats 40000000 in
theorem own_r2_8 (l : Launch) (Z : State) (a0 : Array Value) (hw : ∀ d ∈ tables_1, d.before a0 Z = true) (ws : List Jvm.Cond)  (c0 c1 c2 c3 c4 c5 c6 c7 c8 c9 c10 c11 c12 c13 : Addr) (h0 : Heap) (n0 : Nat) (Z0 : n0 ≤ h0.size) (K : own_W Z h0 c0 c1 c2 c3 c4 c5 c6 c7 c8 c9 c10 c11 c12 c13)  :
    MetFree l (⟨"com/example/midpoint/midpoint/rounding/Mode", "isSymmetric", "()Z"⟩ : MethodName) (head1 (Jvm.Cond.code (⟨"com/example/midpoint/midpoint/rounding/Mode", "isSymmetric", "()Z"⟩ : MethodName) prog_19_method_7_code 1 (some .boolean) :: ws) ({ frames := 1, cells := 0, slots := 0, locals := 14 } : Room)) (fun a U => a = #[(.ref c6)] ∧ Z.Warmed39 U.vm ∧ U.heap = h0) (fun _ _ _ _ _ => True) (fun _ U o U' => ∃ v L, o = .returned v ∧ own_Q (.int (1 : Int32)) h0 n0 v U'.heap L ∧ FrameEnd U o U' L ({ frames := 1, cells := 0, slots := 0, locals := 14 } : Room).cells ({ frames := 1, cells := 0, slots := 0, locals := 14 } : Room).slots) := by
  have K' := K
  obtain ⟨S0, E0, S1, E1, S2, E2, S3, E3, S4, E4, S5, E5, S6, E6, S7, E7, S8, E8, S9, E9, S10, E10, S11, E11, S12, E12, S13, E13, F0, F1, F2, F3, F4⟩ := K'
  refine MetFree.of_bodySF (plainFor_of_name own_pn2) hisR ?_
  intro p e s m args below meth c s₁ Bd hml0 hP hK
  obtain ⟨rfl, hZ, hh⟩ := hP
  have hx := Bd.exec
  have hby := Bd.bytes
  have hml : c.maxLocals = 1 := hml0
  have hown : s.vm.findClass "com/example/midpoint/midpoint/rounding/Mode" = some m.cls := findClass_of_methodNamed Bd.named
  have X0 : Stand p l e ({ frames := 1, cells := 0, slots := 0, locals := 14 } : Room) s m #[(.ref c6)] below meth c s₁ [] 0 0 := Stand.of_body Bd
  have e0 : s₁.heap = h0 := by rw [← hh, Bd.state]; rfl
  have N0 := Fr.nil n0
  have pre0 : ∀ t, Steps p.tables e below (s₁.setTop (mkF m 0 #[.val (.ref c6)] [])) t → Steps p.tables e below (s₁.setTop (entryFrame m #[(.ref c6)] 1)) t := fun t k => castTop (own_ef2 m c6) k
  obtain ⟨cq1, kq1, q1a, q1b, q1c⟩ := isOf hZ e0 E6
  obtain ⟨_, _, ⟨T1, L1, k1, n1⟩, -, X1, ⟨Lc1, hQ1, l1, y1, z1⟩, st1⟩ := X0.virtualBack hx (y := (⟨"com/example/midpoint/midpoint/rounding/Mode", "onMagnitude", "(Z)Ljava/math/RoundingMode;"⟩ : MethodName)) (z := (⟨"com/example/midpoint/midpoint/rounding/Mode$9", "onMagnitude", "(Z)Ljava/math/RoundingMode;"⟩ : MethodName)) hown (mvT hZ (hw _ (List.mem_of_getElem? (i := 13) rfl))) (mvT hZ (hw _ (List.mem_of_getElem? (i := 14) rfl))) (own_nf (args := #[]) (D := "com/example/midpoint/midpoint/rounding/Mode$1") (n := "isSymmetric") (d := "()Z") (mvT hZ (hw _ (List.mem_of_getElem? (i := 11) rfl))) (mvT hZ (hw _ (List.mem_of_getElem? (i := 9) rfl)))) (mvT hZ (hw _ (List.mem_of_getElem? (i := 67) rfl))) (mvT hZ (hw _ (List.mem_of_getElem? (i := 68) rfl))) (by decide) (backOf (W := 0) (own_r9_0 l Z a0 hw [] c0 c1 c2 c3 c4 c5 c6 c7 c8 c9 c10 c11 c12 c13 h0 n0 Z0 K) hZ (hw _ (List.mem_of_getElem? (i := 70) rfl)) (hw _ (List.mem_of_getElem? (i := 69) rfl)) (by decide) (by decide)) q1a q1c (g := (mkF m 2 #[.val (.ref c6)] [(.int (0 : Int32)), (.ref c6)])) rfl (by rw [hml]; rfl) (Steps.refl _) (argsL := [(.int (0 : Int32))]) (rest := []) (lenOf own_pd1 rfl) rfl (by show 2 * 0 + _ ≤ _; exact Nat.le_of_eq rfl) (hb hby own_d2_2) (fun _ _ => ⟨rfl, e0, (by decide : 0 + 0 ≤ _), (by decide : 0 + 0 ≤ _)⟩)
  dsimp only [Pt.U, Pt.locs, Pt.cells, Pt.slots] at X1 l1 y1 z1 st1 hQ1
  subst l1 y1 z1
  obtain ⟨rfl, N1q, e1⟩ := hQ1
  have N1 := Fr.app N0 N1q
  obtain ⟨cq2, kq2, q2a, q2b, q2c⟩ := isOf hZ e1 E6
  obtain ⟨_, _, ⟨T2, L2, k2, n2⟩, -, X2, ⟨Lc2, hQ2, l2, y2, z2⟩, st2⟩ := X1.virtualBack hx (y := (⟨"com/example/midpoint/midpoint/rounding/Mode", "onMagnitude", "(Z)Ljava/math/RoundingMode;"⟩ : MethodName)) (z := (⟨"com/example/midpoint/midpoint/rounding/Mode$9", "onMagnitude", "(Z)Ljava/math/RoundingMode;"⟩ : MethodName)) hown (mvT hZ (hw _ (List.mem_of_getElem? (i := 13) rfl))) (mvT hZ (hw _ (List.mem_of_getElem? (i := 14) rfl))) (own_nf (args := #[]) (D := "com/example/midpoint/midpoint/rounding/Mode$1") (n := "isSymmetric") (d := "()Z") (mvT hZ (hw _ (List.mem_of_getElem? (i := 11) rfl))) (mvT hZ (hw _ (List.mem_of_getElem? (i := 9) rfl)))) (mvT hZ (hw _ (List.mem_of_getElem? (i := 67) rfl))) (mvT hZ (hw _ (List.mem_of_getElem? (i := 68) rfl))) (by decide) (backOf (W := 1) (own_r9_1 l Z a0 hw [] c0 c1 c2 c3 c4 c5 c6 c7 c8 c9 c10 c11 c12 c13 h0 n0 Z0 K) hZ (hw _ (List.mem_of_getElem? (i := 70) rfl)) (hw _ (List.mem_of_getElem? (i := 69) rfl)) (by decide) (by decide)) q2a q2c (g := (mkF m 7 #[.val (.ref c6)] [(.int (1 : Int32)), (.ref c6), (.ref c13)])) rfl (by rw [hml]; rfl) (Steps.refl _) (argsL := [(.int (1 : Int32))]) (rest := [(.ref c13)]) (lenOf own_pd1 rfl) rfl (by show 2 * 0 + _ ≤ _; exact Nat.le_of_eq rfl) (hb hby own_d2_7) (fun _ _ => ⟨rfl, e1, (by decide : 0 + 0 ≤ _), (by decide : 0 + 0 ≤ _)⟩)
  dsimp only [Pt.U, Pt.locs, Pt.cells, Pt.slots] at X2 l2 y2 z2 st2 hQ2
  subst l2 y2 z2
  obtain ⟨rfl, N2q, e2⟩ := hQ2
  have N2 := Fr.app N1 N2q
  obtain ⟨fs, hr, hrun, hended, hW, hsame⟩ := X2.leave (v := some (.int (1 : Int32))) (fun h => by rw [Bd.returns] at h; cases h)
  refine ⟨_, _, pre0 _ ?_, hrun, hended, _, _, rfl, ?_, ⟨_, rfl⟩, hW, hsame.mono (by decide) (by decide)⟩
  · show Steps p.tables e below (s₁.setTop (mkF m 0 #[.val (.ref c6)] [])) _
    refine XS.aloadN X0.here hx rfl (hb hby own_d2_0) rfl rfl ?_
    show Steps p.tables e below (s₁.setTop (mkF m 1 #[.val (.ref c6)] [(.ref c6)])) _
    refine XS.iconst X0.here hx rfl (hb hby own_d2_1) ?_
    show Steps p.tables e below (s₁.setTop (mkF m 2 #[.val (.ref c6)] [(.int (0 : Int32)), (.ref c6)])) _
    refine st1.trans ?_
    show Steps p.tables e below (T1.setTop (mkF m 5 #[.val (.ref c6)] [(.ref c13)])) _
    refine XS.aloadN X1.here hx rfl (hb hby own_d2_5) rfl rfl ?_
    show Steps p.tables e below (T1.setTop (mkF m 6 #[.val (.ref c6)] [(.ref c6), (.ref c13)])) _
    refine XS.iconst X1.here hx rfl (hb hby own_d2_6) ?_
    show Steps p.tables e below (T1.setTop (mkF m 7 #[.val (.ref c6)] [(.int (1 : Int32)), (.ref c6), (.ref c13)])) _
    refine st2.trans ?_
    show Steps p.tables e below (T2.setTop (mkF m 10 #[.val (.ref c6)] [(.ref c13), (.ref c13)])) _
    refine Jvm.RoadKit.acmp (g := (mkF m 10 #[.val (.ref c6)] [(.ref c13), (.ref c13)])) X2 hx rfl rfl rfl (pc0 := 10) (pc' := 13) (same := true) rfl (hb hby own_d2_10) rfl (decide_eq_true rfl) (by decide) (by decide) ?_
    show Steps p.tables e below (T2.setTop (mkF m 13 #[.val (.ref c6)] [])) _
    refine XS.iconst X2.here hx rfl (hb hby own_d2_13) ?_
    show Steps p.tables e below (T2.setTop (mkF m 14 #[.val (.ref c6)] [(.int (1 : Int32))])) _
    refine XS.goto X2.here hx rfl (pc0 := 14) (pc' := 18) rfl (hb hby own_d2_14) (by decide) (by decide) ?_
    show Steps p.tables e below (T2.setTop (mkF m 18 #[.val (.ref c6)] [(.int (1 : Int32))])) _
    exact retN X2 hx (t := .boolean) Bd.returns (by simp) (hb hby own_d2_18) hr
  · show own_Q _ h0 n0 _ T2.heap _
    exact ⟨rfl, N2, e2⟩
set_option maxRecDepth 65536 in
set_option maxHeartbeats 40000000 in
theorem own_r0_8 (l : Launch) (Z : State) (a0 : Array Value) (hw : ∀ d ∈ tables_1, d.before a0 Z = true) (ws : List Jvm.Cond) (p0 : Int32) (c0 c1 c2 c3 c4 c5 c6 c7 c8 c9 c10 c11 c12 c13 : Addr) (h0 : Heap) (n0 : Nat) (Z0 : n0 ≤ h0.size) (K : own_W Z h0 c0 c1 c2 c3 c4 c5 c6 c7 c8 c9 c10 c11 c12 c13) (hk0 : ((p0 &&& (2147483647 : Int32)) % (9 : Int32)) = (8 : Int32)) :
    MetFree l x (head1 (Jvm.Cond.code x code maxLocals ret :: ws) room_1) (fun a U => a = #[(.int p0)] ∧ Z.Warmed39 U.vm ∧ U.heap = h0) (fun _ _ _ _ _ => True) (fun _ U o U' => ∃ v L, o = .returned v ∧ own_Q (.int (1 : Int32)) h0 n0 v U'.heap L ∧ FrameEnd U o U' L room_1.cells room_1.slots) := by
  have K' := K
  obtain ⟨S0, E0, S1, E1, S2, E2, S3, E3, S4, E4, S5, E5, S6, E6, S7, E7, S8, E8, S9, E9, S10, E10, S11, E11, S12, E12, S13, E13, F0, F1, F2, F3, F4⟩ := K'
  refine MetFree.of_bodySF (plainFor_of_name own_pn0) hisR ?_
  intro p e s m args below meth c s₁ Bd hml0 hP hK
  obtain ⟨rfl, hZ, hh⟩ := hP
  have hx := Bd.exec
  have hby := Bd.bytes
  have hml : c.maxLocals = 4 := hml0
  have hown : s.vm.findClass "com/example/midpoint/midpoint/rounding/ModeIsSymmetricPinLaw" = some m.cls := findClass_of_methodNamed Bd.named
  have X0 : Stand p l e room_1 s m #[(.int p0)] below meth c s₁ [] 0 0 := Stand.of_body Bd
  have e0 : s₁.heap = h0 := by rw [← hh, Bd.state]; rfl
  have N0 := Fr.nil n0
  have pre0 : ∀ t, Steps p.tables e below (s₁.setTop (mkF m 0 #[.val (.int p0), .unset, .unset, .unset] [])) t → Steps p.tables e below (s₁.setTop (entryFrame m #[(.int p0)] maxLocals)) t := fun t k => castTop (own_ef0 m p0) k
  obtain ⟨_, _, ⟨T1, L1, k1, n1⟩, -, X1, ⟨Lc1, hQ1, l1, y1, z1⟩, st1⟩ := Jvm.LawKit.callS X0 hx (y := (⟨"com/example/midpoint/midpoint/rounding/ModeIsSymmetricPinLaw", "modeAt", "(I)Lcom/example/midpoint/midpoint/rounding/Mode;"⟩ : MethodName)) hown (mvT hZ (hw _ (List.mem_of_getElem? (i := 1) rfl))) (mvT hZ (hw _ (List.mem_of_getElem? (i := 2) rfl))) (mvT hZ (hw _ (List.mem_of_getElem? (i := 3) rfl))) (mvT hZ (hw _ (List.mem_of_getElem? (i := 4) rfl))) (by decide) (backOf (W := 0) (own_r1_8 l Z a0 hw [] c0 c1 c2 c3 c4 c5 c6 c7 c8 c9 c10 c11 c12 c13 h0 n0 Z0 K) hZ (hw _ (List.mem_of_getElem? (i := 4) rfl)) (hw _ (List.mem_of_getElem? (i := 3) rfl)) (by decide) (by decide)) (g := (mkF m 9 #[.val (.int p0), .val (.int (8 : Int32)), .unset, .unset] [(.int (8 : Int32))])) rfl (by rw [hml]; rfl) (argsL := [(.int (8 : Int32))]) (rest := []) (lenOf own_pd0 rfl) rfl (by show 2 * 0 + _ ≤ _; exact Nat.le_of_eq rfl) (hb hby at_9) (fun _ _ => ⟨rfl, e0, (by decide : 0 + 0 ≤ _), (by decide : 0 + 0 ≤ _)⟩)
  dsimp only [Pt.U, Pt.locs, Pt.cells, Pt.slots] at X1 l1 y1 z1 st1 hQ1
  subst l1 y1 z1
  obtain ⟨rfl, N1q, e1⟩ := hQ1
  have N1 := Fr.app N0 N1q
  obtain ⟨cq2, kq2, q2a, q2b, q2c⟩ := isOf hZ e1 E6
  obtain ⟨_, _, ⟨T2, L2, k2, n2⟩, -, X2, ⟨Lc2, hQ2, l2, y2, z2⟩, st2⟩ := X1.virtualBack hx (y := (⟨"com/example/midpoint/midpoint/rounding/Mode", "isSymmetric", "()Z"⟩ : MethodName)) (z := (⟨"com/example/midpoint/midpoint/rounding/Mode", "isSymmetric", "()Z"⟩ : MethodName)) hown (mvT hZ (hw _ (List.mem_of_getElem? (i := 8) rfl))) (mvT hZ (hw _ (List.mem_of_getElem? (i := 9) rfl))) (notFace_of_selects (args := #[]) (mvT hZ (hw _ (List.mem_of_getElem? (i := 66) rfl)))) (mvT hZ (hw _ (List.mem_of_getElem? (i := 66) rfl))) (mvT hZ (hw _ (List.mem_of_getElem? (i := 10) rfl))) (by decide) (backOf (W := 0) (own_r2_8 l Z a0 hw [] c0 c1 c2 c3 c4 c5 c6 c7 c8 c9 c10 c11 c12 c13 h0 n0 Z0 K) hZ (hw _ (List.mem_of_getElem? (i := 12) rfl)) (hw _ (List.mem_of_getElem? (i := 6) rfl)) (by decide) (by decide)) q2a q2c (g := (mkF m 48 #[.val (.int p0), .val (.int (8 : Int32)), .val (.ref c6), .val (.int (1 : Int32))] [(.ref c6)])) rfl (by rw [hml]; rfl) (Steps.refl _) (argsL := []) (rest := []) (lenOf own_pd2 rfl) rfl (by show 2 * 0 + _ ≤ _; exact Nat.le_of_eq rfl) (hb hby at_48) (fun _ _ => ⟨rfl, e1, (by decide : 0 + 0 ≤ _), (by decide : 0 + 0 ≤ _)⟩)
  dsimp only [Pt.U, Pt.locs, Pt.cells, Pt.slots] at X2 l2 y2 z2 st2 hQ2
  subst l2 y2 z2
  obtain ⟨rfl, N2q, e2⟩ := hQ2
  have N2 := Fr.app N1 N2q
  obtain ⟨fs, hr, hrun, hended, hW, hsame⟩ := X2.leave (v := some (.int (1 : Int32))) (fun h => by rw [Bd.returns] at h; cases h)
  refine ⟨_, _, pre0 _ ?_, hrun, hended, _, _, rfl, ?_, ⟨_, rfl⟩, hW, hsame.mono (by decide) (by decide)⟩
  · show Steps p.tables e below (s₁.setTop (mkF m 0 #[.val (.int p0), .unset, .unset, .unset] [])) _
    refine XS.iloadN X0.here hx rfl (hb hby at_0) rfl ?_
    show Steps p.tables e below (s₁.setTop (mkF m 1 #[.val (.int p0), .unset, .unset, .unset] [(.int p0)])) _
    refine X0.ldcInt hx hown (mvT hZ (hw _ (List.mem_of_getElem? (i := 0) rfl))) (g := (mkF m 1 #[.val (.int p0), .unset, .unset, .unset] [(.int p0)])) rfl (hb hby at_1) _ ?_
    show Steps p.tables e below (s₁.setTop (mkF m 3 #[.val (.int p0), .unset, .unset, .unset] [(.int (2147483647 : Int32)), (.int p0)])) _
    refine XS.iand X0.here hx rfl (hb hby at_3) rfl ?_
    show Steps p.tables e below (s₁.setTop (mkF m 4 #[.val (.int p0), .unset, .unset, .unset] [(.int (p0 &&& (2147483647 : Int32)))])) _
    refine XS.bipush X0.here hx rfl (hb hby at_4) ?_
    show Steps p.tables e below (s₁.setTop (mkF m 6 #[.val (.int p0), .unset, .unset, .unset] [(.int (9 : Int32)), (.int (p0 &&& (2147483647 : Int32)))])) _
    refine iremM X0 hx rfl (hb hby at_6) rfl (by decide) ?_
    show Steps p.tables e below (s₁.setTop (mkF m 7 #[.val (.int p0), .unset, .unset, .unset] [(.int ((p0 &&& (2147483647 : Int32)) % (9 : Int32)))])) _
    rw [hk0]
    show Steps p.tables e below (s₁.setTop (mkF m 7 #[.val (.int p0), .unset, .unset, .unset] [(.int (8 : Int32))])) _
    refine XS.istoreN X0.here hx rfl (hb hby at_7) rfl (l' := #[.val (.int p0), .val (.int (8 : Int32)), .unset, .unset]) rfl ?_
    show Steps p.tables e below (s₁.setTop (mkF m 8 #[.val (.int p0), .val (.int (8 : Int32)), .unset, .unset] [])) _
    refine XS.iloadN X0.here hx rfl (hb hby at_8) rfl ?_
    show Steps p.tables e below (s₁.setTop (mkF m 9 #[.val (.int p0), .val (.int (8 : Int32)), .unset, .unset] [(.int (8 : Int32))])) _
    refine st1 _ ?_
    show Steps p.tables e below (T1.setTop (mkF m 12 #[.val (.int p0), .val (.int (8 : Int32)), .unset, .unset] [(.ref c6)])) _
    refine XS.astoreN X1.here hx rfl (hb hby at_12) rfl rfl (l' := #[.val (.int p0), .val (.int (8 : Int32)), .val (.ref c6), .unset]) rfl ?_
    show Steps p.tables e below (T1.setTop (mkF m 13 #[.val (.int p0), .val (.int (8 : Int32)), .val (.ref c6), .unset] [])) _
    refine XS.iloadN X1.here hx rfl (hb hby at_13) rfl ?_
    show Steps p.tables e below (T1.setTop (mkF m 14 #[.val (.int p0), .val (.int (8 : Int32)), .val (.ref c6), .unset] [(.int (8 : Int32))])) _
    refine XS.iconst X1.here hx rfl (hb hby at_14) ?_
    show Steps p.tables e below (T1.setTop (mkF m 15 #[.val (.int p0), .val (.int (8 : Int32)), .val (.ref c6), .unset] [(.int (2 : Int32)), (.int (8 : Int32))])) _
    refine XS.icmpNo X1.here hx rfl (hb hby at_15) rfl (feq (by decide : ¬ ((8 : Int32) = (2 : Int32)))).1 ?_
    show Steps p.tables e below (T1.setTop (mkF m 18 #[.val (.int p0), .val (.int (8 : Int32)), .val (.ref c6), .unset] [])) _
    refine XS.iloadN X1.here hx rfl (hb hby at_18) rfl ?_
    show Steps p.tables e below (T1.setTop (mkF m 19 #[.val (.int p0), .val (.int (8 : Int32)), .val (.ref c6), .unset] [(.int (8 : Int32))])) _
    refine XS.iconst X1.here hx rfl (hb hby at_19) ?_
    show Steps p.tables e below (T1.setTop (mkF m 20 #[.val (.int p0), .val (.int (8 : Int32)), .val (.ref c6), .unset] [(.int (3 : Int32)), (.int (8 : Int32))])) _
    refine XS.icmpNo X1.here hx rfl (hb hby at_20) rfl (feq (by decide : ¬ ((8 : Int32) = (3 : Int32)))).1 ?_
    show Steps p.tables e below (T1.setTop (mkF m 23 #[.val (.int p0), .val (.int (8 : Int32)), .val (.ref c6), .unset] [])) _
    refine XS.iloadN X1.here hx rfl (hb hby at_23) rfl ?_
    show Steps p.tables e below (T1.setTop (mkF m 24 #[.val (.int p0), .val (.int (8 : Int32)), .val (.ref c6), .unset] [(.int (8 : Int32))])) _
    refine XS.bipush X1.here hx rfl (hb hby at_24) ?_
    show Steps p.tables e below (T1.setTop (mkF m 26 #[.val (.int p0), .val (.int (8 : Int32)), .val (.ref c6), .unset] [(.int (6 : Int32)), (.int (8 : Int32))])) _
    refine XS.icmpNo X1.here hx rfl (hb hby at_26) rfl (feq (by decide : ¬ ((8 : Int32) = (6 : Int32)))).1 ?_
    show Steps p.tables e below (T1.setTop (mkF m 29 #[.val (.int p0), .val (.int (8 : Int32)), .val (.ref c6), .unset] [])) _
    refine XS.iloadN X1.here hx rfl (hb hby at_29) rfl ?_
    show Steps p.tables e below (T1.setTop (mkF m 30 #[.val (.int p0), .val (.int (8 : Int32)), .val (.ref c6), .unset] [(.int (8 : Int32))])) _
    refine XS.bipush X1.here hx rfl (hb hby at_30) ?_
    show Steps p.tables e below (T1.setTop (mkF m 32 #[.val (.int p0), .val (.int (8 : Int32)), .val (.ref c6), .unset] [(.int (7 : Int32)), (.int (8 : Int32))])) _
    refine XS.icmpNo X1.here hx rfl (hb hby at_32) rfl (feq (by decide : ¬ ((8 : Int32) = (7 : Int32)))).1 ?_
    show Steps p.tables e below (T1.setTop (mkF m 35 #[.val (.int p0), .val (.int (8 : Int32)), .val (.ref c6), .unset] [])) _
    refine XS.iloadN X1.here hx rfl (hb hby at_35) rfl ?_
    show Steps p.tables e below (T1.setTop (mkF m 36 #[.val (.int p0), .val (.int (8 : Int32)), .val (.ref c6), .unset] [(.int (8 : Int32))])) _
    refine XS.bipush X1.here hx rfl (hb hby at_36) ?_
    show Steps p.tables e below (T1.setTop (mkF m 38 #[.val (.int p0), .val (.int (8 : Int32)), .val (.ref c6), .unset] [(.int (8 : Int32)), (.int (8 : Int32))])) _
    refine XS.icmpNo X1.here hx rfl (hb hby at_38) rfl (teq (by decide : (8 : Int32) = (8 : Int32))).2 ?_
    show Steps p.tables e below (T1.setTop (mkF m 41 #[.val (.int p0), .val (.int (8 : Int32)), .val (.ref c6), .unset] [])) _
    refine XS.iconst X1.here hx rfl (hb hby at_41) ?_
    show Steps p.tables e below (T1.setTop (mkF m 42 #[.val (.int p0), .val (.int (8 : Int32)), .val (.ref c6), .unset] [(.int (1 : Int32))])) _
    refine XS.goto X1.here hx rfl (pc0 := 42) (pc' := 46) rfl (hb hby at_42) (by decide) (by decide) ?_
    show Steps p.tables e below (T1.setTop (mkF m 46 #[.val (.int p0), .val (.int (8 : Int32)), .val (.ref c6), .unset] [(.int (1 : Int32))])) _
    refine XS.istoreN X1.here hx rfl (hb hby at_46) rfl (l' := #[.val (.int p0), .val (.int (8 : Int32)), .val (.ref c6), .val (.int (1 : Int32))]) rfl ?_
    show Steps p.tables e below (T1.setTop (mkF m 47 #[.val (.int p0), .val (.int (8 : Int32)), .val (.ref c6), .val (.int (1 : Int32))] [])) _
    refine XS.aloadN X1.here hx rfl (hb hby at_47) rfl rfl ?_
    show Steps p.tables e below (T1.setTop (mkF m 48 #[.val (.int p0), .val (.int (8 : Int32)), .val (.ref c6), .val (.int (1 : Int32))] [(.ref c6)])) _
    refine st2.trans ?_
    show Steps p.tables e below (T2.setTop (mkF m 51 #[.val (.int p0), .val (.int (8 : Int32)), .val (.ref c6), .val (.int (1 : Int32))] [(.int (1 : Int32))])) _
    refine XS.iloadN X2.here hx rfl (hb hby at_51) rfl ?_
    show Steps p.tables e below (T2.setTop (mkF m 52 #[.val (.int p0), .val (.int (8 : Int32)), .val (.ref c6), .val (.int (1 : Int32))] [(.int (1 : Int32)), (.int (1 : Int32))])) _
    refine XS.icmpNo X2.here hx rfl (hb hby at_52) rfl (teq (by decide : (1 : Int32) = (1 : Int32))).2 ?_
    show Steps p.tables e below (T2.setTop (mkF m 55 #[.val (.int p0), .val (.int (8 : Int32)), .val (.ref c6), .val (.int (1 : Int32))] [])) _
    refine XS.iconst X2.here hx rfl (hb hby at_55) ?_
    show Steps p.tables e below (T2.setTop (mkF m 56 #[.val (.int p0), .val (.int (8 : Int32)), .val (.ref c6), .val (.int (1 : Int32))] [(.int (1 : Int32))])) _
    refine XS.goto X2.here hx rfl (pc0 := 56) (pc' := 60) rfl (hb hby at_56) (by decide) (by decide) ?_
    show Steps p.tables e below (T2.setTop (mkF m 60 #[.val (.int p0), .val (.int (8 : Int32)), .val (.ref c6), .val (.int (1 : Int32))] [(.int (1 : Int32))])) _
    exact retN X2 hx (t := .boolean) Bd.returns (by simp) (hb hby at_60) hr
  · show own_Q _ h0 n0 _ T2.heap _
    exact ⟨rfl, N2, e2⟩
theorem own_i32 {z k : Int32} (h : z.toInt = k.toInt) : z = k := Int32.toInt_inj.mp h
theorem own_sp0 (p0 : Int32) : ((p0 &&& (2147483647 : Int32)) % (9 : Int32)) = (0 : Int32) ∨ ((p0 &&& (2147483647 : Int32)) % (9 : Int32)) = (1 : Int32) ∨ ((p0 &&& (2147483647 : Int32)) % (9 : Int32)) = (2 : Int32) ∨ ((p0 &&& (2147483647 : Int32)) % (9 : Int32)) = (3 : Int32) ∨ ((p0 &&& (2147483647 : Int32)) % (9 : Int32)) = (4 : Int32) ∨ ((p0 &&& (2147483647 : Int32)) % (9 : Int32)) = (5 : Int32) ∨ ((p0 &&& (2147483647 : Int32)) % (9 : Int32)) = (6 : Int32) ∨ ((p0 &&& (2147483647 : Int32)) % (9 : Int32)) = (7 : Int32) ∨ ((p0 &&& (2147483647 : Int32)) % (9 : Int32)) = (8 : Int32) := by
  have h := c_and p0 (2147483647 : Int32) (by decide)
  have h2 := (c_irem (p0 &&& (2147483647 : Int32)) (9 : Int32) 9 (by decide)).1 h.1
  have hr : ((p0 &&& (2147483647 : Int32)) % (9 : Int32)).toInt = 0 ∨ ((p0 &&& (2147483647 : Int32)) % (9 : Int32)).toInt = 1 ∨ ((p0 &&& (2147483647 : Int32)) % (9 : Int32)).toInt = 2 ∨ ((p0 &&& (2147483647 : Int32)) % (9 : Int32)).toInt = 3 ∨ ((p0 &&& (2147483647 : Int32)) % (9 : Int32)).toInt = 4 ∨ ((p0 &&& (2147483647 : Int32)) % (9 : Int32)).toInt = 5 ∨ ((p0 &&& (2147483647 : Int32)) % (9 : Int32)).toInt = 6 ∨ ((p0 &&& (2147483647 : Int32)) % (9 : Int32)).toInt = 7 ∨ ((p0 &&& (2147483647 : Int32)) % (9 : Int32)).toInt = 8 := by rw [h2]; omega
  rcases hr with q | q | q | q | q | q | q | q | q
  · exact Or.inl (own_i32 q)
  · exact Or.inr (Or.inl (own_i32 q))
  · exact Or.inr (Or.inr (Or.inl (own_i32 q)))
  · exact Or.inr (Or.inr (Or.inr (Or.inl (own_i32 q))))
  · exact Or.inr (Or.inr (Or.inr (Or.inr (Or.inl (own_i32 q)))))
  · exact Or.inr (Or.inr (Or.inr (Or.inr (Or.inr (Or.inl (own_i32 q))))))
  · exact Or.inr (Or.inr (Or.inr (Or.inr (Or.inr (Or.inr (Or.inl (own_i32 q)))))))
  · exact Or.inr (Or.inr (Or.inr (Or.inr (Or.inr (Or.inr (Or.inr (Or.inl (own_i32 q))))))))
  · exact Or.inr (Or.inr (Or.inr (Or.inr (Or.inr (Or.inr (Or.inr (Or.inr (own_i32 q))))))))
theorem own_law (l : Launch) (Z : State) (a0 : Array Value) (hw : ∀ d ∈ tables_1, d.before a0 Z = true) (ws : List Jvm.Cond) (p0 : Int32) (c0 c1 c2 c3 c4 c5 c6 c7 c8 c9 c10 c11 c12 c13 : Addr) (h0 : Heap) (n0 : Nat) (Z0 : n0 ≤ h0.size) (K : own_W Z h0 c0 c1 c2 c3 c4 c5 c6 c7 c8 c9 c10 c11 c12 c13) :
    MetFree l x (head1 (Jvm.Cond.code x code maxLocals ret :: ws) room_1) (fun a U => a = #[(.int p0)] ∧ Z.Warmed39 U.vm ∧ U.heap = h0) (fun _ _ _ _ _ => True) (fun _ U o U' => ∃ v L, o = .returned v ∧ own_Q (.int (1 : Int32)) h0 n0 v U'.heap L ∧ FrameEnd U o U' L room_1.cells room_1.slots) := by
  rcases own_sp0 p0 with q0 | q0 | q0 | q0 | q0 | q0 | q0 | q0 | q0
  · exact own_r0_0 l Z a0 hw ws p0 c0 c1 c2 c3 c4 c5 c6 c7 c8 c9 c10 c11 c12 c13 h0 n0 Z0 K q0
  · exact own_r0_1 l Z a0 hw ws p0 c0 c1 c2 c3 c4 c5 c6 c7 c8 c9 c10 c11 c12 c13 h0 n0 Z0 K q0
  · exact own_r0_2 l Z a0 hw ws p0 c0 c1 c2 c3 c4 c5 c6 c7 c8 c9 c10 c11 c12 c13 h0 n0 Z0 K q0
  · exact own_r0_3 l Z a0 hw ws p0 c0 c1 c2 c3 c4 c5 c6 c7 c8 c9 c10 c11 c12 c13 h0 n0 Z0 K q0
  · exact own_r0_4 l Z a0 hw ws p0 c0 c1 c2 c3 c4 c5 c6 c7 c8 c9 c10 c11 c12 c13 h0 n0 Z0 K q0
  · exact own_r0_5 l Z a0 hw ws p0 c0 c1 c2 c3 c4 c5 c6 c7 c8 c9 c10 c11 c12 c13 h0 n0 Z0 K q0
  · exact own_r0_6 l Z a0 hw ws p0 c0 c1 c2 c3 c4 c5 c6 c7 c8 c9 c10 c11 c12 c13 h0 n0 Z0 K q0
  · exact own_r0_7 l Z a0 hw ws p0 c0 c1 c2 c3 c4 c5 c6 c7 c8 c9 c10 c11 c12 c13 h0 n0 Z0 K q0
  · exact own_r0_8 l Z a0 hw ws p0 c0 c1 c2 c3 c4 c5 c6 c7 c8 c9 c10 c11 c12 c13 h0 n0 Z0 K q0
theorem own_int {args : Array Value} {first s : State} {o : Option Outcome} {idx : List Nat} {t : Term} {k : Int32} (h : (Jvm.Cond.eq t (.int k)).value args first o s idx = some true) : t.eval args first o idx s = some (.int k) := by
  simp only [Cond.value, Term.eval] at h; cases ht : t.eval args first o idx s with | none => simp [ht] at h | some x => cases x <;> simp [ht] at h ⊢; exact h
theorem own_ref {args : Array Value} {first s : State} {o : Option Outcome} {idx : List Nat} {t t' : Term} {a : Addr} (h : (Jvm.Cond.eq t t').value args first o s idx = some true) (ev : t'.eval args first o idx s = some (.ref a)) : t.eval args first o idx s = some (.ref a) := by
  simp only [Cond.value, ev] at h; cases ht : t.eval args first o idx s with | none => simp [ht] at h | some x => cases x <;> simp [ht] at h ⊢; exact h
set_option maxRecDepth 65536 in
set_option maxHeartbeats 40000000 in
theorem comes_1 {Post : Tables → Env → Array Value → State → Outcome → State → Prop} (hpost : ∀ tb e args s v u, (limb_1_1.after args s (.returned v) u = true ∧ limb_1_2.after args s (.returned v) u = true ∧ True) → FrameEnd s (.returned v) u (Jvm.fieldLocs frame_1_writes args s ++ Jvm.arrayLocs frame_1_arrays args s ++ Jvm.staticLocs frame_1_statics s) 0 0 → Post tb e args s (.returned v) u) :
    ArmFor flags0 classFile x code maxLocals ret World_1 tables_1 room_1 Calls_1 rest_1 Pre_1 Post := by
  intro l hfl _ _ p e ha hc hk s m args below hf hA hF happ hP
  obtain ⟨hcalls, hrest, hpre⟩ := hP
  obtain ⟨-, -, -, hnamed, -, -, -, hat⟩ := (Spec.applies_iff hf).mp happ
  obtain ⟨hg, hn⟩ := and_e (Cond.before_iff.mp (show (Jvm.Cond.and given_1 narrow_1).before args s = true from hpre))
  obtain ⟨g0, hg⟩ := and_e hg
  have g1 := hg
  obtain ⟨w0, rfl⟩ : ∃ w0 : Value, args = #[w0] := by
    have hs : args.size = 1 := by simpa [Cond.value, given_1] using g0
    obtain ⟨L⟩ := args
    match L, hs with
    | [w0], _ => exact ⟨w0, rfl⟩
  have hw := fun d (hd : d ∈ tables_1) => atoms_spec (ws := Jvm.Cond.code x code maxLocals ret :: tables_1) hat d (List.mem_cons_of_mem _ hd)
  obtain ⟨i0, ei0⟩ := is_v g1
  obtain rfl : w0 = (.int i0) := Option.some.inj ei0
  obtain ⟨j0, hn⟩ := and_e hn
  obtain ⟨j1, hn⟩ := and_e hn
  obtain ⟨j2, hn⟩ := and_e hn
  obtain ⟨j3, hn⟩ := and_e hn
  obtain ⟨j4, hn⟩ := and_e hn
  obtain ⟨j5, hn⟩ := and_e hn
  obtain ⟨j6, hn⟩ := and_e hn
  obtain ⟨j7, hn⟩ := and_e hn
  have j8 := hn
  obtain ⟨hsets, hown0⟩ := atoms_of _ (rest_1_c_eq ▸ (show rest_1_c.before _ s = true from hrest))
  obtain ⟨c0, v0⟩ := exa_v j0
  have E0 := Exa.start v0 j0
  have S0 := Sta.start v0 (Or.inr ⟨(hw _ (List.mem_of_getElem? (i := 6) rfl)), (hw _ (List.mem_of_getElem? (i := 7) rfl))⟩)
  obtain ⟨c1, v1⟩ := exa_v j1
  have E1 := Exa.start v1 j1
  have S1 := Sta.start v1 (Or.inr ⟨(hw _ (List.mem_of_getElem? (i := 6) rfl)), (hw _ (List.mem_of_getElem? (i := 23) rfl))⟩)
  obtain ⟨c2, v2⟩ := exa_v j2
  have E2 := Exa.start v2 j2
  have S2 := Sta.start v2 (Or.inr ⟨(hw _ (List.mem_of_getElem? (i := 6) rfl)), (hw _ (List.mem_of_getElem? (i := 31) rfl))⟩)
  obtain ⟨c3, v3⟩ := exa_v j3
  have E3 := Exa.start v3 j3
  have S3 := Sta.start v3 (Or.inr ⟨(hw _ (List.mem_of_getElem? (i := 6) rfl)), (hw _ (List.mem_of_getElem? (i := 39) rfl))⟩)
  obtain ⟨c4, v4⟩ := exa_v j4
  have E4 := Exa.start v4 j4
  have S4 := Sta.start v4 (Or.inr ⟨(hw _ (List.mem_of_getElem? (i := 6) rfl)), (hw _ (List.mem_of_getElem? (i := 48) rfl))⟩)
  obtain ⟨c5, v5⟩ := exa_v j5
  have E5 := Exa.start v5 j5
  have S5 := Sta.start v5 (Or.inr ⟨(hw _ (List.mem_of_getElem? (i := 6) rfl)), (hw _ (List.mem_of_getElem? (i := 56) rfl))⟩)
  obtain ⟨c6, v6⟩ := exa_v j6
  have E6 := Exa.start v6 j6
  have S6 := Sta.start v6 (Or.inr ⟨(hw _ (List.mem_of_getElem? (i := 6) rfl)), (hw _ (List.mem_of_getElem? (i := 65) rfl))⟩)
  obtain ⟨c7, v7⟩ := exa_v j7
  have E7 := Exa.start v7 j7
  have S7 := Sta.start v7 (Or.inr ⟨(hw _ (List.mem_of_getElem? (i := 6) rfl)), (hw _ (List.mem_of_getElem? (i := 73) rfl))⟩)
  obtain ⟨c8, v8⟩ := exa_v j8
  have E8 := Exa.start v8 j8
  have S8 := Sta.start v8 (Or.inr ⟨(hw _ (List.mem_of_getElem? (i := 6) rfl)), (hw _ (List.mem_of_getElem? (i := 81) rfl))⟩)
  obtain ⟨c9, v9⟩ := exa_v (Cond.before_iff.mp (hsets _ (List.mem_of_getElem? (i := 2) rfl)))
  have E9 := Exa.start v9 (Cond.before_iff.mp (hsets _ (List.mem_of_getElem? (i := 2) rfl)))
  have S9 := Sta.start v9 (Or.inl (hsets _ (List.mem_of_getElem? (i := 1) rfl)))
  obtain ⟨c10, v10⟩ := exa_v (Cond.before_iff.mp (hsets _ (List.mem_of_getElem? (i := 8) rfl)))
  have E10 := Exa.start v10 (Cond.before_iff.mp (hsets _ (List.mem_of_getElem? (i := 8) rfl)))
  have S10 := Sta.start v10 (Or.inl (hsets _ (List.mem_of_getElem? (i := 7) rfl)))
  obtain ⟨c11, v11⟩ := exa_v (Cond.before_iff.mp (hsets _ (List.mem_of_getElem? (i := 14) rfl)))
  have E11 := Exa.start v11 (Cond.before_iff.mp (hsets _ (List.mem_of_getElem? (i := 14) rfl)))
  have S11 := Sta.start v11 (Or.inl (hsets _ (List.mem_of_getElem? (i := 13) rfl)))
  obtain ⟨c12, v12⟩ := exa_v (Cond.before_iff.mp (hsets _ (List.mem_of_getElem? (i := 20) rfl)))
  have E12 := Exa.start v12 (Cond.before_iff.mp (hsets _ (List.mem_of_getElem? (i := 20) rfl)))
  have S12 := Sta.start v12 (Or.inl (hsets _ (List.mem_of_getElem? (i := 19) rfl)))
  obtain ⟨c13, v13⟩ := exa_v (Cond.before_iff.mp (hsets _ (List.mem_of_getElem? (i := 26) rfl)))
  have E13 := Exa.start v13 (Cond.before_iff.mp (hsets _ (List.mem_of_getElem? (i := 26) rfl)))
  have S13 := Sta.start v13 (Or.inl (hsets _ (List.mem_of_getElem? (i := 25) rfl)))
  have F0 := Fld.start ((fld_at v9).symm.trans (own_int (Cond.before_iff.mp (hsets _ (List.mem_of_getElem? (i := 4) rfl)))))
  have F1 := Fld.start ((fld_at v10).symm.trans (own_int (Cond.before_iff.mp (hsets _ (List.mem_of_getElem? (i := 10) rfl)))))
  have F2 := Fld.start ((fld_at v11).symm.trans (own_int (Cond.before_iff.mp (hsets _ (List.mem_of_getElem? (i := 16) rfl)))))
  have F3 := Fld.start ((fld_at v12).symm.trans (own_int (Cond.before_iff.mp (hsets _ (List.mem_of_getElem? (i := 22) rfl)))))
  have F4 := Fld.start ((fld_at v13).symm.trans (own_int (Cond.before_iff.mp (hsets _ (List.mem_of_getElem? (i := 28) rfl)))))
  obtain ⟨n, o, h1, h2, h3, _, L, rfl, ⟨rfl, N, -⟩, hq⟩ := own_law l s _ hw tables_1 i0 c0 c1 c2 c3 c4 c5 c6 c7 c8 c9 c10 c11 c12 c13 s.heap s.heap.size (Nat.le_refl _) ⟨S0, E0, S1, E1, S2, E2, S3, E3, S4, E4, S5, E5, S6, E6, S7, E7, S8, E8, S9, E9, S10, E10, S11, E11, S12, E12, S13, E13, F0, F1, F2, F3, F4⟩ p e ha hc hk s m _ below hf ((Spec.applies_iff_loose hf).mp happ).1 ⟨rfl, State.Warmed39.refl s, rfl⟩ trivial
  refine ⟨n, _, h1, h2, h3, hpost _ _ _ _ _ _ ⟨Cond.after_iff.mpr rfl, Cond.after_iff.mpr (eq_i res_at (Term.int_eval (1)) rfl), trivial⟩ ⟨hq.1, hq.2.1, (hq.2.2.sift fun y hy => Or.inr (N y hy)).mono (by decide) (by decide)⟩⟩
theorem main_1_1 : Claimed_1_1 := comes_1 fun _ _ _ _ _ _ h hF => ⟨h.1, hF⟩
theorem main_1_2 : Claimed_1_2 := comes_1 fun _ _ _ _ _ _ h hF => ⟨h.2.1, hF⟩
end Jvm.Pilot.@@N@@
namespace Jvm.Pilot.@@N@@
open Jvm Jvm.ClassFile Sem Op Lib Jvm.Free Jvm.Stand Jvm.Pilot.@@N@@.Jvm.D
/-! MADE BY PROGRAM (witnessworld.py) out of the Statement's table words and the real class files: 25 classes; the members and pool entries that the words name. The judged class is class 1, her method 1. -/
namespace start1
open Jvm.ClassFile
def u (s : String) : CpInfo := .utf8 (stringToUtf16 s)
/-- a pool by its gaps: so many unusable entries, then the entry; so many at the end -/
def gap : Nat → List CpInfo → List CpInfo
  | 0, r => r
  | n + 1, r => .unusable :: gap n r
def poolList (es : List (Nat × CpInfo)) (last : Nat) : List CpInfo := es.foldr (fun e r => gap e.1 (e.2 :: r)) (gap last [])
def pool (es : List (Nat × CpInfo)) (last : Nat) : Array CpInfo := ⟨poolList es last⟩
def fileOf (pool : Array CpInfo) (this : Nat) (attrs : Array Attribute := #[]) (ms : Array MethodInfo := #[]) (fl : Nat := 33) (sup : Nat := 0) (ifs : Array Nat := #[]) (fds : Array FieldInfo := #[]) : ClassFile where
  minorVersion := 0
  majorVersion := 65
  constantPool := pool
  accessFlags := fl
  thisClass := this
  superClass := sup
  interfaces := ifs
  fields := fds
  methods := ms
  attributes := attrs
def plain (name : String) (sup : Option ClassId) : Class where
  name := name
  kind := .ordinary
  loader := none
  accessFlags := 33
  super := sup
  interfaces := #[]
  cf := none
  fields := #[]
  methods := #[]
  instanceTypes := #[]
  staticTypes := #[]
  resolved := #[]
  callSites := []
  init := .initialized
  statics := none
  mirror := none

def pool0 : Array CpInfo := pool [(5, u "<init>"), (0, u "()V"), (1, .class_ 10), (1, u "java/lang/Object")] 113

def k0m0 : Method := { name := "<init>", desc := "()V", sig := { parameters := [], returnType := none }, accessFlags := 1, code := none }
/-- java/lang/Object -/
def k0 : Class := { plain "java/lang/Object" none with
  accessFlags := 33
  interfaces := #[]
  cf := some (fileOf pool0 8 #[] #[{ accessFlags := 1, nameIndex := 5, descriptorIndex := 6, attributes := #[] }] 33 0 #[] #[])
  fields := #[]
  methods := #[k0m0]
  instanceTypes := #[]
  staticTypes := #[]
  resolved := Array.replicate 124 none
  statics := none }

def pool1 : Array CpInfo := pool [(2, .class_ 4), (1, u "java/lang/Object"), (0, u "<init>"), (0, u "()V"), (0, .integer 2147483647), (0, .methodref 9 10), (0, .class_ 11), (0, .nameAndType 12 13), (0, u "com/example/midpoint/midpoint/rounding/ModeIsSymmetricPinLaw"), (0, u "modeAt"), (0, u "(I)Lcom/example/midpoint/midpoint/rounding/Mode;"), (0, .methodref 15 16), (0, .class_ 17), (0, .nameAndType 18 19), (0, u "com/example/midpoint/midpoint/rounding/Mode"), (0, u "isSymmetric"), (0, u "()Z"), (0, .fieldref 15 21), (0, .nameAndType 22 23), (0, u "FLOOR"), (0, u "Lcom/example/midpoint/midpoint/rounding/Mode;"), (0, .fieldref 15 25), (0, .nameAndType 26 23), (0, u "CEILING"), (0, .fieldref 15 28), (0, .nameAndType 29 23), (0, u "TOWARD_ZERO"), (0, .fieldref 15 31), (0, .nameAndType 32 23), (0, u "AWAY_FROM_ZERO"), (0, .fieldref 15 34), (0, .nameAndType 35 23), (0, u "HALF_TO_FLOOR"), (0, .fieldref 15 37), (0, .nameAndType 38 23), (0, u "HALF_TO_CEILING"), (0, .fieldref 15 40), (0, .nameAndType 41 23), (0, u "HALF_TOWARD_ZERO"), (0, .fieldref 15 43), (0, .nameAndType 44 23), (0, u "HALF_AWAY_FROM_ZERO"), (0, .fieldref 15 46), (0, .nameAndType 47 23), (0, u "HALF_TO_EVEN"), (2, u "law"), (0, u "(I)Z")] 3

def k1m0 : Method := { name := "<init>", desc := "()V", sig := { parameters := [], returnType := none }, accessFlags := 1, code := none }
def k1c1 : Code := { maxStack := 2, maxLocals := 4, code := code, exceptionTable := #[], attributes := #[] }
def k1m1 : Method := { name := "law", desc := "(I)Z", sig := { parameters := [.int], returnType := some .boolean }, accessFlags := 9, code := some k1c1 }
def k1c2 : Code := { maxStack := 2, maxLocals := 1, code := method_3_code, exceptionTable := #[], attributes := #[] }
def k1m2 : Method := { name := "modeAt", desc := "(I)Lcom/example/midpoint/midpoint/rounding/Mode;", sig := { parameters := [.int], returnType := some (.object "com/example/midpoint/midpoint/rounding/Mode") }, accessFlags := 10, code := some k1c2 }
/-- com/example/midpoint/midpoint/rounding/ModeIsSymmetricPinLaw -/
def k1 : Class := { plain "com/example/midpoint/midpoint/rounding/ModeIsSymmetricPinLaw" (some 0) with
  accessFlags := 49
  interfaces := #[]
  cf := some (fileOf pool1 9 #[] #[{ accessFlags := 1, nameIndex := 5, descriptorIndex := 6, attributes := #[] }, { accessFlags := 9, nameIndex := 50, descriptorIndex := 51, attributes := #[] }, { accessFlags := 10, nameIndex := 12, descriptorIndex := 13, attributes := #[] }] 49 2 #[] #[])
  fields := #[]
  methods := #[k1m0, k1m1, k1m2]
  instanceTypes := #[]
  staticTypes := #[]
  resolved := Array.replicate 55 none
  statics := none }

def pool2 : Array CpInfo := pool [(1, .class_ 2), (0, u "java/lang/constant/Constable"), (0, .class_ 4), (0, u "java/lang/Object")] 6

/-- java/lang/constant/Constable -/
def k2 : Class := { plain "java/lang/constant/Constable" (some 0) with
  accessFlags := 1537
  interfaces := #[]
  cf := some (fileOf pool2 1 #[] #[] 1537 3 #[] #[])
  fields := #[]
  methods := #[]
  instanceTypes := #[]
  staticTypes := #[]
  resolved := Array.replicate 11 none
  statics := none }

def pool3 : Array CpInfo := pool [(1, .class_ 2), (0, u "java/lang/Comparable"), (0, .class_ 4), (0, u "java/lang/Object")] 7

/-- java/lang/Comparable -/
def k3 : Class := { plain "java/lang/Comparable" (some 0) with
  accessFlags := 1537
  interfaces := #[]
  cf := some (fileOf pool3 1 #[] #[] 1537 3 #[] #[])
  fields := #[]
  methods := #[]
  instanceTypes := #[]
  staticTypes := #[]
  resolved := Array.replicate 12 none
  statics := none }

def pool4 : Array CpInfo := pool [(1, .class_ 2), (0, u "java/io/Serializable"), (0, .class_ 4), (0, u "java/lang/Object")] 2

/-- java/io/Serializable -/
def k4 : Class := { plain "java/io/Serializable" (some 0) with
  accessFlags := 1537
  interfaces := #[]
  cf := some (fileOf pool4 1 #[] #[] 1537 3 #[] #[])
  fields := #[]
  methods := #[]
  instanceTypes := #[]
  staticTypes := #[]
  resolved := Array.replicate 7 none
  statics := none }

def pool5 : Array CpInfo := pool [(2, .class_ 4), (1, u "java/lang/Enum"), (0, u "name"), (0, u "Ljava/lang/String;"), (2, u "ordinal"), (0, u "I"), (1, .class_ 14), (1, u "java/lang/Object"), (4, u "hash"), (86, .class_ 108), (1, u "java/lang/Enum$EnumDesc"), (2, .class_ 112), (0, u "java/lang/constant/Constable"), (0, .class_ 114), (0, u "java/lang/Comparable"), (0, .class_ 116), (0, u "java/io/Serializable")] 87

/-- java/lang/Enum -/
def k5 : Class := { plain "java/lang/Enum" (some 0) with
  accessFlags := 1057
  interfaces := #[2, 3, 4]
  cf := some (fileOf pool5 2 #[.nestMembers #[106]] #[] 1057 12 #[111, 113, 115] #[{ accessFlags := 18, nameIndex := 5, descriptorIndex := 6, attributes := #[] }, { accessFlags := 18, nameIndex := 9, descriptorIndex := 10, attributes := #[] }, { accessFlags := 2, nameIndex := 19, descriptorIndex := 10, attributes := #[] }])
  fields := #[{ name := "name", type := (.object "java/lang/String"), accessFlags := 18, slot := 0, constantValue := 0 }, { name := "ordinal", type := .int, accessFlags := 18, slot := 1, constantValue := 0 }, { name := "hash", type := .int, accessFlags := 2, slot := 2, constantValue := 0 }]
  methods := #[]
  instanceTypes := #[(.object "java/lang/String"), .int, .int]
  staticTypes := #[]
  resolved := Array.replicate 204 none
  statics := none }

def pool6 : Array CpInfo := pool [(1, .class_ 2), (0, u "com/example/midpoint/midpoint/rounding/Mode"), (2, u "FLOOR"), (0, u "Lcom/example/midpoint/midpoint/rounding/Mode;"), (2, u "CEILING"), (2, u "TOWARD_ZERO"), (2, u "AWAY_FROM_ZERO"), (2, u "HALF_TO_FLOOR"), (2, u "HALF_TO_CEILING"), (2, u "HALF_TOWARD_ZERO"), (2, u "HALF_AWAY_FROM_ZERO"), (2, u "HALF_TO_EVEN"), (2, u "$VALUES"), (0, u "[Lcom/example/midpoint/midpoint/rounding/Mode;"), (6, .class_ 43), (1, u "java/lang/Enum"), (8, u "modeName"), (0, u "Ljava/lang/String;"), (2, u "BY_NAME"), (0, u "Ljava/util/Map;"), (6, .methodref 1 65), (0, .nameAndType 66 67), (0, u "onMagnitude"), (0, u "(Z)Ljava/math/RoundingMode;"), (0, .class_ 69), (0, u "com/example/midpoint/midpoint/rounding/Mode$1"), (6, .class_ 77), (0, u "com/example/midpoint/midpoint/rounding/Mode$2"), (4, .class_ 83), (0, u "com/example/midpoint/midpoint/rounding/Mode$3"), (4, .class_ 89), (0, u "com/example/midpoint/midpoint/rounding/Mode$4"), (4, .class_ 95), (0, u "com/example/midpoint/midpoint/rounding/Mode$5"), (4, .class_ 101), (0, u "com/example/midpoint/midpoint/rounding/Mode$6"), (4, .class_ 107), (0, u "com/example/midpoint/midpoint/rounding/Mode$7"), (4, .class_ 113), (0, u "com/example/midpoint/midpoint/rounding/Mode$8"), (4, .class_ 119), (0, u "com/example/midpoint/midpoint/rounding/Mode$9"), (29, u "isSymmetric"), (0, u "()Z")] 8

def k6m0 : Method := { name := "onMagnitude", desc := "(Z)Ljava/math/RoundingMode;", sig := { parameters := [.boolean], returnType := some (.object "java/math/RoundingMode") }, accessFlags := 1024, code := none }
def k6c1 : Code := { maxStack := 3, maxLocals := 1, code := prog_19_method_7_code, exceptionTable := #[], attributes := #[] }
def k6m1 : Method := { name := "isSymmetric", desc := "()Z", sig := { parameters := [], returnType := some .boolean }, accessFlags := 0, code := some k6c1 }
/-- com/example/midpoint/midpoint/rounding/Mode -/
def k6 : Class := { plain "com/example/midpoint/midpoint/rounding/Mode" (some 5) with
  accessFlags := 17441
  interfaces := #[]
  cf := some (fileOf pool6 1 #[.nestMembers #[118, 112, 106, 100, 94, 88, 82, 76, 68]] #[{ accessFlags := 1024, nameIndex := 66, descriptorIndex := 67, attributes := #[] }, { accessFlags := 0, nameIndex := 149, descriptorIndex := 150, attributes := #[] }] 17441 41 #[] #[{ accessFlags := 16409, nameIndex := 5, descriptorIndex := 6, attributes := #[] }, { accessFlags := 16409, nameIndex := 9, descriptorIndex := 6, attributes := #[] }, { accessFlags := 16409, nameIndex := 12, descriptorIndex := 6, attributes := #[] }, { accessFlags := 16409, nameIndex := 15, descriptorIndex := 6, attributes := #[] }, { accessFlags := 16409, nameIndex := 18, descriptorIndex := 6, attributes := #[] }, { accessFlags := 16409, nameIndex := 21, descriptorIndex := 6, attributes := #[] }, { accessFlags := 16409, nameIndex := 24, descriptorIndex := 6, attributes := #[] }, { accessFlags := 16409, nameIndex := 27, descriptorIndex := 6, attributes := #[] }, { accessFlags := 16409, nameIndex := 30, descriptorIndex := 6, attributes := #[] }, { accessFlags := 26, nameIndex := 56, descriptorIndex := 57, attributes := #[] }, { accessFlags := 18, nameIndex := 52, descriptorIndex := 53, attributes := #[] }, { accessFlags := 4122, nameIndex := 33, descriptorIndex := 34, attributes := #[] }])
  fields := #[{ name := "FLOOR", type := (.object "com/example/midpoint/midpoint/rounding/Mode"), accessFlags := 16409, slot := 0, constantValue := 0 }, { name := "CEILING", type := (.object "com/example/midpoint/midpoint/rounding/Mode"), accessFlags := 16409, slot := 1, constantValue := 0 }, { name := "TOWARD_ZERO", type := (.object "com/example/midpoint/midpoint/rounding/Mode"), accessFlags := 16409, slot := 2, constantValue := 0 }, { name := "AWAY_FROM_ZERO", type := (.object "com/example/midpoint/midpoint/rounding/Mode"), accessFlags := 16409, slot := 3, constantValue := 0 }, { name := "HALF_TO_FLOOR", type := (.object "com/example/midpoint/midpoint/rounding/Mode"), accessFlags := 16409, slot := 4, constantValue := 0 }, { name := "HALF_TO_CEILING", type := (.object "com/example/midpoint/midpoint/rounding/Mode"), accessFlags := 16409, slot := 5, constantValue := 0 }, { name := "HALF_TOWARD_ZERO", type := (.object "com/example/midpoint/midpoint/rounding/Mode"), accessFlags := 16409, slot := 6, constantValue := 0 }, { name := "HALF_AWAY_FROM_ZERO", type := (.object "com/example/midpoint/midpoint/rounding/Mode"), accessFlags := 16409, slot := 7, constantValue := 0 }, { name := "HALF_TO_EVEN", type := (.object "com/example/midpoint/midpoint/rounding/Mode"), accessFlags := 16409, slot := 8, constantValue := 0 }, { name := "BY_NAME", type := (.object "java/util/Map"), accessFlags := 26, slot := 9, constantValue := 0 }, { name := "modeName", type := (.object "java/lang/String"), accessFlags := 18, slot := 3, constantValue := 0 }, { name := "$VALUES", type := (.array (.object "com/example/midpoint/midpoint/rounding/Mode")), accessFlags := 4122, slot := 10, constantValue := 0 }]
  methods := #[k6m0, k6m1]
  instanceTypes := #[(.object "java/lang/String"), .int, .int, (.object "java/lang/String")]
  staticTypes := #[(.object "com/example/midpoint/midpoint/rounding/Mode"), (.object "com/example/midpoint/midpoint/rounding/Mode"), (.object "com/example/midpoint/midpoint/rounding/Mode"), (.object "com/example/midpoint/midpoint/rounding/Mode"), (.object "com/example/midpoint/midpoint/rounding/Mode"), (.object "com/example/midpoint/midpoint/rounding/Mode"), (.object "com/example/midpoint/midpoint/rounding/Mode"), (.object "com/example/midpoint/midpoint/rounding/Mode"), (.object "com/example/midpoint/midpoint/rounding/Mode"), (.object "java/util/Map"), (.array (.object "com/example/midpoint/midpoint/rounding/Mode"))]
  resolved := Array.replicate 159 none
  statics := some 0 }

def pool7 : Array CpInfo := pool [(2, .class_ 4), (1, u "com/example/midpoint/midpoint/rounding/Mode"), (2, .fieldref 8 9), (0, .class_ 10), (0, .nameAndType 11 12), (0, u "java/math/RoundingMode"), (0, u "UP"), (0, u "Ljava/math/RoundingMode;"), (0, .fieldref 8 14), (0, .nameAndType 15 12), (0, u "DOWN"), (0, .class_ 17), (0, u "com/example/midpoint/midpoint/rounding/Mode$1"), (3, u "onMagnitude"), (0, u "(Z)Ljava/math/RoundingMode;")] 6

def k7c0 : Code := { maxStack := 1, maxLocals := 2, code := prog_20_method_2_code, exceptionTable := #[], attributes := #[] }
def k7m0 : Method := { name := "onMagnitude", desc := "(Z)Ljava/math/RoundingMode;", sig := { parameters := [.boolean], returnType := some (.object "java/math/RoundingMode") }, accessFlags := 0, code := some k7c0 }
/-- com/example/midpoint/midpoint/rounding/Mode$1 -/
def k7 : Class := { plain "com/example/midpoint/midpoint/rounding/Mode$1" (some 6) with
  accessFlags := 16432
  interfaces := #[]
  cf := some (fileOf pool7 16 #[.nestHost 2] #[{ accessFlags := 0, nameIndex := 21, descriptorIndex := 22, attributes := #[] }] 16432 2 #[] #[])
  fields := #[]
  methods := #[k7m0]
  instanceTypes := #[(.object "java/lang/String"), .int, .int, (.object "java/lang/String")]
  staticTypes := #[]
  resolved := Array.replicate 29 none
  statics := none }

def pool8 : Array CpInfo := pool [(1, .class_ 2), (0, u "java/math/RoundingMode"), (2, u "UP"), (0, u "Ljava/math/RoundingMode;"), (2, u "DOWN"), (2, u "CEILING"), (2, u "FLOOR"), (2, u "HALF_UP"), (2, u "HALF_DOWN"), (2, u "HALF_EVEN"), (2, u "UNNECESSARY"), (2, u "$VALUES"), (0, u "[Ljava/math/RoundingMode;"), (6, .class_ 40), (1, u "java/lang/Enum"), (8, u "oldMode"), (0, u "I")] 43

/-- java/math/RoundingMode -/
def k8 : Class := { plain "java/math/RoundingMode" (some 5) with
  accessFlags := 16433
  interfaces := #[]
  cf := some (fileOf pool8 1 #[] #[] 16433 38 #[] #[{ accessFlags := 16409, nameIndex := 5, descriptorIndex := 6, attributes := #[] }, { accessFlags := 16409, nameIndex := 9, descriptorIndex := 6, attributes := #[] }, { accessFlags := 16409, nameIndex := 12, descriptorIndex := 6, attributes := #[] }, { accessFlags := 16409, nameIndex := 15, descriptorIndex := 6, attributes := #[] }, { accessFlags := 16409, nameIndex := 18, descriptorIndex := 6, attributes := #[] }, { accessFlags := 16409, nameIndex := 21, descriptorIndex := 6, attributes := #[] }, { accessFlags := 16409, nameIndex := 24, descriptorIndex := 6, attributes := #[] }, { accessFlags := 16409, nameIndex := 27, descriptorIndex := 6, attributes := #[] }, { accessFlags := 16, nameIndex := 49, descriptorIndex := 50, attributes := #[] }, { accessFlags := 4122, nameIndex := 30, descriptorIndex := 31, attributes := #[] }])
  fields := #[{ name := "UP", type := (.object "java/math/RoundingMode"), accessFlags := 16409, slot := 0, constantValue := 0 }, { name := "DOWN", type := (.object "java/math/RoundingMode"), accessFlags := 16409, slot := 1, constantValue := 0 }, { name := "CEILING", type := (.object "java/math/RoundingMode"), accessFlags := 16409, slot := 2, constantValue := 0 }, { name := "FLOOR", type := (.object "java/math/RoundingMode"), accessFlags := 16409, slot := 3, constantValue := 0 }, { name := "HALF_UP", type := (.object "java/math/RoundingMode"), accessFlags := 16409, slot := 4, constantValue := 0 }, { name := "HALF_DOWN", type := (.object "java/math/RoundingMode"), accessFlags := 16409, slot := 5, constantValue := 0 }, { name := "HALF_EVEN", type := (.object "java/math/RoundingMode"), accessFlags := 16409, slot := 6, constantValue := 0 }, { name := "UNNECESSARY", type := (.object "java/math/RoundingMode"), accessFlags := 16409, slot := 7, constantValue := 0 }, { name := "oldMode", type := .int, accessFlags := 16, slot := 3, constantValue := 0 }, { name := "$VALUES", type := (.array (.object "java/math/RoundingMode")), accessFlags := 4122, slot := 8, constantValue := 0 }]
  methods := #[]
  instanceTypes := #[(.object "java/lang/String"), .int, .int, .int]
  staticTypes := #[(.object "java/math/RoundingMode"), (.object "java/math/RoundingMode"), (.object "java/math/RoundingMode"), (.object "java/math/RoundingMode"), (.object "java/math/RoundingMode"), (.object "java/math/RoundingMode"), (.object "java/math/RoundingMode"), (.object "java/math/RoundingMode"), (.array (.object "java/math/RoundingMode"))]
  resolved := Array.replicate 94 none
  statics := some 1 }

def pool9 : Array CpInfo := pool [(2, .class_ 4), (1, u "com/example/midpoint/midpoint/rounding/Mode"), (2, .fieldref 8 9), (0, .class_ 10), (0, .nameAndType 11 12), (0, u "java/math/RoundingMode"), (0, u "UP"), (0, u "Ljava/math/RoundingMode;"), (0, .class_ 14), (0, u "com/example/midpoint/midpoint/rounding/Mode$4"), (3, u "onMagnitude"), (0, u "(Z)Ljava/math/RoundingMode;")] 5

def k9c0 : Code := { maxStack := 1, maxLocals := 2, code := prog_23_method_2_code, exceptionTable := #[], attributes := #[] }
def k9m0 : Method := { name := "onMagnitude", desc := "(Z)Ljava/math/RoundingMode;", sig := { parameters := [.boolean], returnType := some (.object "java/math/RoundingMode") }, accessFlags := 0, code := some k9c0 }
/-- com/example/midpoint/midpoint/rounding/Mode$4 -/
def k9 : Class := { plain "com/example/midpoint/midpoint/rounding/Mode$4" (some 6) with
  accessFlags := 16432
  interfaces := #[]
  cf := some (fileOf pool9 13 #[.nestHost 2] #[{ accessFlags := 0, nameIndex := 18, descriptorIndex := 19, attributes := #[] }] 16432 2 #[] #[])
  fields := #[]
  methods := #[k9m0]
  instanceTypes := #[(.object "java/lang/String"), .int, .int, (.object "java/lang/String")]
  staticTypes := #[]
  resolved := Array.replicate 25 none
  statics := none }

def pool10 : Array CpInfo := pool [(2, .class_ 4), (1, u "com/example/midpoint/midpoint/rounding/Mode"), (2, .fieldref 8 9), (0, .class_ 10), (0, .nameAndType 11 12), (0, u "java/math/RoundingMode"), (0, u "DOWN"), (0, u "Ljava/math/RoundingMode;"), (0, .class_ 14), (0, u "com/example/midpoint/midpoint/rounding/Mode$3"), (3, u "onMagnitude"), (0, u "(Z)Ljava/math/RoundingMode;")] 5

def k10c0 : Code := { maxStack := 1, maxLocals := 2, code := prog_22_method_2_code, exceptionTable := #[], attributes := #[] }
def k10m0 : Method := { name := "onMagnitude", desc := "(Z)Ljava/math/RoundingMode;", sig := { parameters := [.boolean], returnType := some (.object "java/math/RoundingMode") }, accessFlags := 0, code := some k10c0 }
/-- com/example/midpoint/midpoint/rounding/Mode$3 -/
def k10 : Class := { plain "com/example/midpoint/midpoint/rounding/Mode$3" (some 6) with
  accessFlags := 16432
  interfaces := #[]
  cf := some (fileOf pool10 13 #[.nestHost 2] #[{ accessFlags := 0, nameIndex := 18, descriptorIndex := 19, attributes := #[] }] 16432 2 #[] #[])
  fields := #[]
  methods := #[k10m0]
  instanceTypes := #[(.object "java/lang/String"), .int, .int, (.object "java/lang/String")]
  staticTypes := #[]
  resolved := Array.replicate 25 none
  statics := none }

def pool11 : Array CpInfo := pool [(2, .class_ 4), (1, u "com/example/midpoint/midpoint/rounding/Mode"), (2, .fieldref 8 9), (0, .class_ 10), (0, .nameAndType 11 12), (0, u "java/math/RoundingMode"), (0, u "DOWN"), (0, u "Ljava/math/RoundingMode;"), (0, .fieldref 8 14), (0, .nameAndType 15 12), (0, u "UP"), (0, .class_ 17), (0, u "com/example/midpoint/midpoint/rounding/Mode$2"), (3, u "onMagnitude"), (0, u "(Z)Ljava/math/RoundingMode;")] 6

def k11c0 : Code := { maxStack := 1, maxLocals := 2, code := prog_21_method_2_code, exceptionTable := #[], attributes := #[] }
def k11m0 : Method := { name := "onMagnitude", desc := "(Z)Ljava/math/RoundingMode;", sig := { parameters := [.boolean], returnType := some (.object "java/math/RoundingMode") }, accessFlags := 0, code := some k11c0 }
/-- com/example/midpoint/midpoint/rounding/Mode$2 -/
def k11 : Class := { plain "com/example/midpoint/midpoint/rounding/Mode$2" (some 6) with
  accessFlags := 16432
  interfaces := #[]
  cf := some (fileOf pool11 16 #[.nestHost 2] #[{ accessFlags := 0, nameIndex := 21, descriptorIndex := 22, attributes := #[] }] 16432 2 #[] #[])
  fields := #[]
  methods := #[k11m0]
  instanceTypes := #[(.object "java/lang/String"), .int, .int, (.object "java/lang/String")]
  staticTypes := #[]
  resolved := Array.replicate 29 none
  statics := none }

def pool12 : Array CpInfo := pool [(2, .class_ 4), (1, u "com/example/midpoint/midpoint/rounding/Mode"), (2, .fieldref 8 9), (0, .class_ 10), (0, .nameAndType 11 12), (0, u "java/math/RoundingMode"), (0, u "HALF_UP"), (0, u "Ljava/math/RoundingMode;"), (0, .class_ 14), (0, u "com/example/midpoint/midpoint/rounding/Mode$8"), (3, u "onMagnitude"), (0, u "(Z)Ljava/math/RoundingMode;")] 5

def k12c0 : Code := { maxStack := 1, maxLocals := 2, code := prog_27_method_2_code, exceptionTable := #[], attributes := #[] }
def k12m0 : Method := { name := "onMagnitude", desc := "(Z)Ljava/math/RoundingMode;", sig := { parameters := [.boolean], returnType := some (.object "java/math/RoundingMode") }, accessFlags := 0, code := some k12c0 }
/-- com/example/midpoint/midpoint/rounding/Mode$8 -/
def k12 : Class := { plain "com/example/midpoint/midpoint/rounding/Mode$8" (some 6) with
  accessFlags := 16432
  interfaces := #[]
  cf := some (fileOf pool12 13 #[.nestHost 2] #[{ accessFlags := 0, nameIndex := 18, descriptorIndex := 19, attributes := #[] }] 16432 2 #[] #[])
  fields := #[]
  methods := #[k12m0]
  instanceTypes := #[(.object "java/lang/String"), .int, .int, (.object "java/lang/String")]
  staticTypes := #[]
  resolved := Array.replicate 25 none
  statics := none }

def pool13 : Array CpInfo := pool [(2, .class_ 4), (1, u "com/example/midpoint/midpoint/rounding/Mode"), (2, .fieldref 8 9), (0, .class_ 10), (0, .nameAndType 11 12), (0, u "java/math/RoundingMode"), (0, u "HALF_UP"), (0, u "Ljava/math/RoundingMode;"), (0, .fieldref 8 14), (0, .nameAndType 15 12), (0, u "HALF_DOWN"), (0, .class_ 17), (0, u "com/example/midpoint/midpoint/rounding/Mode$5"), (3, u "onMagnitude"), (0, u "(Z)Ljava/math/RoundingMode;")] 6

def k13c0 : Code := { maxStack := 1, maxLocals := 2, code := prog_24_method_2_code, exceptionTable := #[], attributes := #[] }
def k13m0 : Method := { name := "onMagnitude", desc := "(Z)Ljava/math/RoundingMode;", sig := { parameters := [.boolean], returnType := some (.object "java/math/RoundingMode") }, accessFlags := 0, code := some k13c0 }
/-- com/example/midpoint/midpoint/rounding/Mode$5 -/
def k13 : Class := { plain "com/example/midpoint/midpoint/rounding/Mode$5" (some 6) with
  accessFlags := 16432
  interfaces := #[]
  cf := some (fileOf pool13 16 #[.nestHost 2] #[{ accessFlags := 0, nameIndex := 21, descriptorIndex := 22, attributes := #[] }] 16432 2 #[] #[])
  fields := #[]
  methods := #[k13m0]
  instanceTypes := #[(.object "java/lang/String"), .int, .int, (.object "java/lang/String")]
  staticTypes := #[]
  resolved := Array.replicate 29 none
  statics := none }

def pool14 : Array CpInfo := pool [(2, .class_ 4), (1, u "com/example/midpoint/midpoint/rounding/Mode"), (2, .fieldref 8 9), (0, .class_ 10), (0, .nameAndType 11 12), (0, u "java/math/RoundingMode"), (0, u "HALF_EVEN"), (0, u "Ljava/math/RoundingMode;"), (0, .class_ 14), (0, u "com/example/midpoint/midpoint/rounding/Mode$9"), (3, u "onMagnitude"), (0, u "(Z)Ljava/math/RoundingMode;")] 5

def k14c0 : Code := { maxStack := 1, maxLocals := 2, code := prog_28_method_2_code, exceptionTable := #[], attributes := #[] }
def k14m0 : Method := { name := "onMagnitude", desc := "(Z)Ljava/math/RoundingMode;", sig := { parameters := [.boolean], returnType := some (.object "java/math/RoundingMode") }, accessFlags := 0, code := some k14c0 }
/-- com/example/midpoint/midpoint/rounding/Mode$9 -/
def k14 : Class := { plain "com/example/midpoint/midpoint/rounding/Mode$9" (some 6) with
  accessFlags := 16432
  interfaces := #[]
  cf := some (fileOf pool14 13 #[.nestHost 2] #[{ accessFlags := 0, nameIndex := 18, descriptorIndex := 19, attributes := #[] }] 16432 2 #[] #[])
  fields := #[]
  methods := #[k14m0]
  instanceTypes := #[(.object "java/lang/String"), .int, .int, (.object "java/lang/String")]
  staticTypes := #[]
  resolved := Array.replicate 25 none
  statics := none }

def pool15 : Array CpInfo := pool [(2, .class_ 4), (1, u "com/example/midpoint/midpoint/rounding/Mode"), (2, .fieldref 8 9), (0, .class_ 10), (0, .nameAndType 11 12), (0, u "java/math/RoundingMode"), (0, u "HALF_DOWN"), (0, u "Ljava/math/RoundingMode;"), (0, .class_ 14), (0, u "com/example/midpoint/midpoint/rounding/Mode$7"), (3, u "onMagnitude"), (0, u "(Z)Ljava/math/RoundingMode;")] 5

def k15c0 : Code := { maxStack := 1, maxLocals := 2, code := prog_26_method_2_code, exceptionTable := #[], attributes := #[] }
def k15m0 : Method := { name := "onMagnitude", desc := "(Z)Ljava/math/RoundingMode;", sig := { parameters := [.boolean], returnType := some (.object "java/math/RoundingMode") }, accessFlags := 0, code := some k15c0 }
/-- com/example/midpoint/midpoint/rounding/Mode$7 -/
def k15 : Class := { plain "com/example/midpoint/midpoint/rounding/Mode$7" (some 6) with
  accessFlags := 16432
  interfaces := #[]
  cf := some (fileOf pool15 13 #[.nestHost 2] #[{ accessFlags := 0, nameIndex := 18, descriptorIndex := 19, attributes := #[] }] 16432 2 #[] #[])
  fields := #[]
  methods := #[k15m0]
  instanceTypes := #[(.object "java/lang/String"), .int, .int, (.object "java/lang/String")]
  staticTypes := #[]
  resolved := Array.replicate 25 none
  statics := none }

def pool16 : Array CpInfo := pool [(2, .class_ 4), (1, u "com/example/midpoint/midpoint/rounding/Mode"), (2, .fieldref 8 9), (0, .class_ 10), (0, .nameAndType 11 12), (0, u "java/math/RoundingMode"), (0, u "HALF_DOWN"), (0, u "Ljava/math/RoundingMode;"), (0, .fieldref 8 14), (0, .nameAndType 15 12), (0, u "HALF_UP"), (0, .class_ 17), (0, u "com/example/midpoint/midpoint/rounding/Mode$6"), (3, u "onMagnitude"), (0, u "(Z)Ljava/math/RoundingMode;")] 6

def k16c0 : Code := { maxStack := 1, maxLocals := 2, code := prog_25_method_2_code, exceptionTable := #[], attributes := #[] }
def k16m0 : Method := { name := "onMagnitude", desc := "(Z)Ljava/math/RoundingMode;", sig := { parameters := [.boolean], returnType := some (.object "java/math/RoundingMode") }, accessFlags := 0, code := some k16c0 }
/-- com/example/midpoint/midpoint/rounding/Mode$6 -/
def k16 : Class := { plain "com/example/midpoint/midpoint/rounding/Mode$6" (some 6) with
  accessFlags := 16432
  interfaces := #[]
  cf := some (fileOf pool16 16 #[.nestHost 2] #[{ accessFlags := 0, nameIndex := 21, descriptorIndex := 22, attributes := #[] }] 16432 2 #[] #[])
  fields := #[]
  methods := #[k16m0]
  instanceTypes := #[(.object "java/lang/String"), .int, .int, (.object "java/lang/String")]
  staticTypes := #[]
  resolved := Array.replicate 29 none
  statics := none }

def pool17 : Array CpInfo := pool [(2, .class_ 4), (1, u "java/lang/CharSequence"), (42, .class_ 48), (0, u "java/lang/CharSequence$1CodePointIterator"), (10, .class_ 60), (0, u "java/lang/CharSequence$1CharIterator"), (5, .class_ 67), (0, u "java/lang/Object")] 63

/-- java/lang/CharSequence -/
def k17 : Class := { plain "java/lang/CharSequence" (some 0) with
  accessFlags := 1537
  interfaces := #[]
  cf := some (fileOf pool17 2 #[.nestMembers #[47, 59]] #[] 1537 66 #[] #[])
  fields := #[]
  methods := #[]
  instanceTypes := #[]
  staticTypes := #[]
  resolved := Array.replicate 131 none
  statics := none }

def pool18 : Array CpInfo := pool [(1, .class_ 2), (0, u "java/lang/constant/ConstantDesc"), (0, .class_ 4), (0, u "java/lang/Object")] 32

/-- java/lang/constant/ConstantDesc -/
def k18 : Class := { plain "java/lang/constant/ConstantDesc" (some 0) with
  accessFlags := 1537
  interfaces := #[]
  cf := some (fileOf pool18 1 #[] #[] 1537 3 #[] #[])
  fields := #[]
  methods := #[]
  instanceTypes := #[]
  staticTypes := #[]
  resolved := Array.replicate 37 none
  statics := none }

def pool19 : Array CpInfo := pool [(2, .class_ 4), (1, u "java/lang/Object"), (0, u "<init>"), (0, u "()V"), (3, .class_ 12), (1, u "java/lang/String"), (0, u "value"), (0, u "[B"), (2, u "coder"), (0, u "B"), (2, u "hash"), (0, u "I"), (2, u "hashIsZero"), (0, u "Z"), (13, u "COMPACT_STRINGS"), (534, .class_ 576), (0, u "java/lang/CharSequence"), (22, u "CASE_INSENSITIVE_ORDER"), (0, u "Ljava/util/Comparator;"), (500, u "serialPersistentFields"), (0, u "[Ljava/io/ObjectStreamField;"), (0, .class_ 1104), (0, u "java/lang/String$CaseInsensitiveComparator"), (1, .class_ 1107), (0, u "java/io/Serializable"), (0, .class_ 1109), (0, u "java/lang/Comparable"), (0, .class_ 1111), (0, u "java/lang/constant/Constable"), (0, .class_ 1113), (0, u "java/lang/constant/ConstantDesc"), (2, u "serialVersionUID"), (0, u "J"), (3, u "REPL"), (0, u "C"), (2, u "LATIN1"), (1, u "UTF16")] 323

def k19m0 : Method := { name := "<init>", desc := "()V", sig := { parameters := [], returnType := none }, accessFlags := 1, code := none }
/-- java/lang/String -/
def k19 : Class := { plain "java/lang/String" (some 0) with
  accessFlags := 49
  interfaces := #[4, 3, 17, 2, 18]
  cf := some (fileOf pool19 10 #[.nestMembers #[1103]] #[{ accessFlags := 1, nameIndex := 5, descriptorIndex := 6, attributes := #[] }] 49 2 #[1106, 1108, 575, 1110, 1112] #[{ accessFlags := 18, nameIndex := 13, descriptorIndex := 14, attributes := #[] }, { accessFlags := 18, nameIndex := 17, descriptorIndex := 18, attributes := #[] }, { accessFlags := 2, nameIndex := 21, descriptorIndex := 22, attributes := #[] }, { accessFlags := 2, nameIndex := 25, descriptorIndex := 26, attributes := #[] }, { accessFlags := 26, nameIndex := 1116, descriptorIndex := 1117, attributes := #[] }, { accessFlags := 24, nameIndex := 40, descriptorIndex := 26, attributes := #[] }, { accessFlags := 26, nameIndex := 1101, descriptorIndex := 1102, attributes := #[] }, { accessFlags := 26, nameIndex := 1121, descriptorIndex := 1122, attributes := #[] }, { accessFlags := 25, nameIndex := 599, descriptorIndex := 600, attributes := #[] }, { accessFlags := 24, nameIndex := 1125, descriptorIndex := 18, attributes := #[] }, { accessFlags := 24, nameIndex := 1127, descriptorIndex := 18, attributes := #[] }])
  fields := #[{ name := "value", type := (.array .byte), accessFlags := 18, slot := 0, constantValue := 0 }, { name := "coder", type := .byte, accessFlags := 18, slot := 1, constantValue := 0 }, { name := "hash", type := .int, accessFlags := 2, slot := 2, constantValue := 0 }, { name := "hashIsZero", type := .boolean, accessFlags := 2, slot := 3, constantValue := 0 }, { name := "serialVersionUID", type := .long, accessFlags := 26, slot := 0, constantValue := 0 }, { name := "COMPACT_STRINGS", type := .boolean, accessFlags := 24, slot := 1, constantValue := 0 }, { name := "serialPersistentFields", type := (.array (.object "java/io/ObjectStreamField")), accessFlags := 26, slot := 2, constantValue := 0 }, { name := "REPL", type := .char, accessFlags := 26, slot := 3, constantValue := 0 }, { name := "CASE_INSENSITIVE_ORDER", type := (.object "java/util/Comparator"), accessFlags := 25, slot := 4, constantValue := 0 }, { name := "LATIN1", type := .byte, accessFlags := 24, slot := 5, constantValue := 0 }, { name := "UTF16", type := .byte, accessFlags := 24, slot := 6, constantValue := 0 }]
  methods := #[k19m0]
  instanceTypes := #[(.array .byte), .byte, .int, .boolean]
  staticTypes := #[.long, .boolean, (.array (.object "java/io/ObjectStreamField")), .char, (.object "java/util/Comparator"), .byte, .byte]
  resolved := Array.replicate 1451 none
  statics := none }

def pool20 : Array CpInfo := pool [(1, u "java/lang/Cloneable"), (0, .class_ 1), (0, u "java/lang/Object"), (0, .class_ 3)] 3

/-- java/lang/Cloneable -/
def k20 : Class := { plain "java/lang/Cloneable" (some 0) with
  accessFlags := 1537
  interfaces := #[]
  cf := some (fileOf pool20 2 #[] #[] 1537 4 #[] #[])
  fields := #[]
  methods := #[]
  instanceTypes := #[]
  staticTypes := #[]
  resolved := Array.replicate 8 none
  statics := none }

/-- the primitive byte -/
def k21 : Class := { plain "byte" none with kind := .primitive 'B', accessFlags := 0x411 }
/-- [B -/
def k22 : Class := { plain "[B" (some 0) with kind := .array 21 .byte, interfaces := #[20, 4], accessFlags := 1041 }

/-- the primitive int -/
def k23 : Class := { plain "int" none with kind := .primitive 'I', accessFlags := 0x411 }
/-- [I -/
def k24 : Class := { plain "[I" (some 0) with kind := .array 23 .int, interfaces := #[20, 4], accessFlags := 1041 }

def heap : Heap := #[{ cls := 6, slots := #[.ref 2, .ref 5, .ref 4, .ref 3, .ref 7, .ref 10, .ref 9, .ref 6, .ref 8, .null, .null], vm := .statics 6 },
  { cls := 8, slots := #[.ref 13, .ref 12, .null, .null, .ref 14, .ref 15, .ref 16, .null, .null], vm := .statics 8 },
  { cls := 7, slots := #[.null, .int 0, .int 0, .null], vm := .none },
  { cls := 9, slots := #[.null, .int 0, .int 0, .null], vm := .none },
  { cls := 10, slots := #[.null, .int 0, .int 0, .null], vm := .none },
  { cls := 11, slots := #[.null, .int 0, .int 0, .null], vm := .none },
  { cls := 12, slots := #[.null, .int 0, .int 0, .null], vm := .none },
  { cls := 13, slots := #[.null, .int 0, .int 0, .null], vm := .none },
  { cls := 14, slots := #[.null, .int 0, .int 0, .null], vm := .none },
  { cls := 15, slots := #[.null, .int 0, .int 0, .null], vm := .none },
  { cls := 16, slots := #[.null, .int 0, .int 0, .null], vm := .none },
  { cls := 19, slots := #[.null, .int 0, .int 0, .int 0], vm := .none },
  { cls := 8, slots := #[.ref 11, .int 1, .int 0, .int 1], vm := .none },
  { cls := 8, slots := #[.ref 11, .int 0, .int 0, .int 0], vm := .none },
  { cls := 8, slots := #[.ref 11, .int 4, .int 0, .int 4], vm := .none },
  { cls := 8, slots := #[.ref 11, .int 5, .int 0, .int 5], vm := .none },
  { cls := 8, slots := #[.ref 11, .int 6, .int 0, .int 6], vm := .none }]
def classes : Array Class := #[k0, k1, k2, k3, k4, k5, k6, k7, k8, k9, k10, k11, k12, k13, k14, k15, k16, k17, k18, k19, k20, k21, k22, k23, k24]
def interned : List (Array UInt16 × Addr) := []
def slotsUsed : Nat := 80
def theMethod : MethodId := ⟨1, 1⟩
def args0 : Array Value := #[.int 5]
def aboutOver (below : List Frame) : State where
  vm := { classes := classes, interned := interned.toArray }
  heap := heap
  slotsUsed := slotsUsed
  threads := #[{ frames := .invoking theMethod args0 :: below }]
def below0 : List Frame := [.native { method := ⟨0, 0⟩, args := #[] }]
def about1 : State := aboutOver below0
def p0 : Program := .bare "" "" ""
def e0 : Env := launch0.env 0 0 0
theorem w_frames : about1.frames = Frame.invoking theMethod args0 :: below0 := rfl
set_option maxRecDepth 65536 in
theorem w_args : argsFit about1.vm theMethod args0 = true := by decide +kernel
set_option maxRecDepth 65536 in
theorem w_heap : heapFits about1 = true := by decide +kernel
set_option maxRecDepth 65536 in
theorem w_runnable : about1.curStatus? = some .runnable := by decide +kernel
set_option maxRecDepth 65536 in
theorem w_alone : about1.alone = true := by decide +kernel
set_option maxRecDepth 65536 in
theorem w_named : about1.methodNamed? x = some theMethod := by decide +kernel
set_option maxRecDepth 65536 in
theorem w_hears : about1.hears theMethod below0 = true := by decide +kernel
set_option maxRecDepth 65536 in
theorem w_ripe : about1.ripe theMethod args0 below0 = true := by decide +kernel
theorem w_running : about1.status = .running := rfl
set_option maxRecDepth 65536 in
theorem w_room : about1.hasRoom e0.platform room_1 = true :=
  launch0.hasRoom_least _ room_1 (by decide +kernel) (by decide +kernel) (by decide +kernel) (by decide +kernel) (by decide +kernel) (by decide +kernel)
theorem allAtoms_all (ts : List Jvm.Cond) (a : Array Jvm.Value) (st : Jvm.State) : (allAtoms ts).before a st = ts.all (fun c => c.before a st) := by
  induction ts with
  | nil => rfl
  | cons c t ih =>
    show (Jvm.Cond.and c (allAtoms t)).before a st = _
    rw [Jvm.Cond.before_and, ih, List.all_cons]
def words1 : List Jvm.Cond := Jvm.Cond.code x code maxLocals ret :: tables_1
/-- a 'code' word, met by the world's own term for the bytes: nothing is compared byte by byte -/
theorem code_word {y : MethodName} {bytes : ByteArray} {mx : Nat} {rt : Option FieldType} {a : Array Value} {s : State} {m : MethodId} {meth : Method} {c : Code} (h1 : s.methodNamed? y = some m) (h2 : s.vm.method? m = some meth) (h3 : meth.code = some c) (h4 : c.code = bytes)
    (h5 : (c.maxLocals == mx && c.exceptionTable.isEmpty && decide (c.maxStack ≤ mostOperands) && decide (meth.sig.returnType = rt) && !meth.locks && decide (parseMethodDescriptor y.desc = some meth.sig)) = true) : (Jvm.Cond.code y bytes mx rt).before a s = true := by
  simp only [Bool.and_eq_true, beq_iff_eq, Bool.not_eq_true', decide_eq_true_eq] at h5
  obtain ⟨⟨⟨⟨⟨g1, g2⟩, g3⟩, g4⟩, g5⟩, g6⟩ := h5
  simp [Cond.before, Cond.holds, Cond.value, h1, h2, h3, h4, g1, g2, g3, g4, g5, g6]
def isCode : Jvm.Cond → Bool
  | .code _ _ _ _ => true
  | _ => false
theorem all_split {L : List Jvm.Cond} {P : Jvm.Cond → Bool} (h1 : L.all (fun c => isCode c || P c) = true) (h2 : ∀ c ∈ L.filter isCode, P c = true) : L.all P = true := by
  refine List.all_eq_true.mpr fun c hc => ?_
  have h := List.all_eq_true.mp h1 c hc
  rcases Bool.eq_false_or_eq_true (isCode c) with hi | hi
  · exact h2 c (List.mem_filter.mpr ⟨hc, hi⟩)
  · simpa [hi] using h
set_option maxRecDepth 65536 in
theorem w_c0 : (Jvm.Cond.code x code maxLocals ret).before args0 about1 = true := code_word (m := ⟨1, 1⟩) (meth := k1m1) (c := k1c1) (by decide +kernel) rfl rfl rfl (by decide +kernel)
set_option maxRecDepth 65536 in
theorem w_c1 : (Jvm.Cond.code ({ cls := "com/example/midpoint/midpoint/rounding/ModeIsSymmetricPinLaw", name := "modeAt", desc := "(I)Lcom/example/midpoint/midpoint/rounding/Mode;" } : Jvm.MethodName) method_3_code (1 : Nat) (Option.some (Jvm.ClassFile.FieldType.object "com/example/midpoint/midpoint/rounding/Mode"))).before args0 about1 = true := code_word (m := ⟨1, 2⟩) (meth := k1m2) (c := k1c2) (by decide +kernel) rfl rfl rfl (by decide +kernel)
set_option maxRecDepth 65536 in
theorem w_c2 : (Jvm.Cond.code ({ cls := "com/example/midpoint/midpoint/rounding/Mode", name := "isSymmetric", desc := "()Z" } : Jvm.MethodName) prog_19_method_7_code (1 : Nat) (Option.some Jvm.ClassFile.FieldType.boolean)).before args0 about1 = true := code_word (m := ⟨6, 1⟩) (meth := k6m1) (c := k6c1) (by decide +kernel) rfl rfl rfl (by decide +kernel)
set_option maxRecDepth 65536 in
theorem w_c3 : (Jvm.Cond.code ({ cls := "com/example/midpoint/midpoint/rounding/Mode$1", name := "onMagnitude", desc := "(Z)Ljava/math/RoundingMode;" } : Jvm.MethodName) prog_20_method_2_code (2 : Nat) (Option.some (Jvm.ClassFile.FieldType.object "java/math/RoundingMode"))).before args0 about1 = true := code_word (m := ⟨7, 0⟩) (meth := k7m0) (c := k7c0) (by decide +kernel) rfl rfl rfl (by decide +kernel)
set_option maxRecDepth 65536 in
theorem w_c4 : (Jvm.Cond.code ({ cls := "com/example/midpoint/midpoint/rounding/Mode$4", name := "onMagnitude", desc := "(Z)Ljava/math/RoundingMode;" } : Jvm.MethodName) prog_23_method_2_code (2 : Nat) (Option.some (Jvm.ClassFile.FieldType.object "java/math/RoundingMode"))).before args0 about1 = true := code_word (m := ⟨9, 0⟩) (meth := k9m0) (c := k9c0) (by decide +kernel) rfl rfl rfl (by decide +kernel)
set_option maxRecDepth 65536 in
theorem w_c5 : (Jvm.Cond.code ({ cls := "com/example/midpoint/midpoint/rounding/Mode$3", name := "onMagnitude", desc := "(Z)Ljava/math/RoundingMode;" } : Jvm.MethodName) prog_22_method_2_code (2 : Nat) (Option.some (Jvm.ClassFile.FieldType.object "java/math/RoundingMode"))).before args0 about1 = true := code_word (m := ⟨10, 0⟩) (meth := k10m0) (c := k10c0) (by decide +kernel) rfl rfl rfl (by decide +kernel)
set_option maxRecDepth 65536 in
theorem w_c6 : (Jvm.Cond.code ({ cls := "com/example/midpoint/midpoint/rounding/Mode$2", name := "onMagnitude", desc := "(Z)Ljava/math/RoundingMode;" } : Jvm.MethodName) prog_21_method_2_code (2 : Nat) (Option.some (Jvm.ClassFile.FieldType.object "java/math/RoundingMode"))).before args0 about1 = true := code_word (m := ⟨11, 0⟩) (meth := k11m0) (c := k11c0) (by decide +kernel) rfl rfl rfl (by decide +kernel)
set_option maxRecDepth 65536 in
theorem w_c7 : (Jvm.Cond.code ({ cls := "com/example/midpoint/midpoint/rounding/Mode$8", name := "onMagnitude", desc := "(Z)Ljava/math/RoundingMode;" } : Jvm.MethodName) prog_27_method_2_code (2 : Nat) (Option.some (Jvm.ClassFile.FieldType.object "java/math/RoundingMode"))).before args0 about1 = true := code_word (m := ⟨12, 0⟩) (meth := k12m0) (c := k12c0) (by decide +kernel) rfl rfl rfl (by decide +kernel)
set_option maxRecDepth 65536 in
theorem w_c8 : (Jvm.Cond.code ({ cls := "com/example/midpoint/midpoint/rounding/Mode$5", name := "onMagnitude", desc := "(Z)Ljava/math/RoundingMode;" } : Jvm.MethodName) prog_24_method_2_code (2 : Nat) (Option.some (Jvm.ClassFile.FieldType.object "java/math/RoundingMode"))).before args0 about1 = true := code_word (m := ⟨13, 0⟩) (meth := k13m0) (c := k13c0) (by decide +kernel) rfl rfl rfl (by decide +kernel)
set_option maxRecDepth 65536 in
theorem w_c9 : (Jvm.Cond.code ({ cls := "com/example/midpoint/midpoint/rounding/Mode$9", name := "onMagnitude", desc := "(Z)Ljava/math/RoundingMode;" } : Jvm.MethodName) prog_28_method_2_code (2 : Nat) (Option.some (Jvm.ClassFile.FieldType.object "java/math/RoundingMode"))).before args0 about1 = true := code_word (m := ⟨14, 0⟩) (meth := k14m0) (c := k14c0) (by decide +kernel) rfl rfl rfl (by decide +kernel)
set_option maxRecDepth 65536 in
theorem w_c10 : (Jvm.Cond.code ({ cls := "com/example/midpoint/midpoint/rounding/Mode$7", name := "onMagnitude", desc := "(Z)Ljava/math/RoundingMode;" } : Jvm.MethodName) prog_26_method_2_code (2 : Nat) (Option.some (Jvm.ClassFile.FieldType.object "java/math/RoundingMode"))).before args0 about1 = true := code_word (m := ⟨15, 0⟩) (meth := k15m0) (c := k15c0) (by decide +kernel) rfl rfl rfl (by decide +kernel)
set_option maxRecDepth 65536 in
theorem w_c11 : (Jvm.Cond.code ({ cls := "com/example/midpoint/midpoint/rounding/Mode$6", name := "onMagnitude", desc := "(Z)Ljava/math/RoundingMode;" } : Jvm.MethodName) prog_25_method_2_code (2 : Nat) (Option.some (Jvm.ClassFile.FieldType.object "java/math/RoundingMode"))).before args0 about1 = true := code_word (m := ⟨16, 0⟩) (meth := k16m0) (c := k16c0) (by decide +kernel) rfl rfl rfl (by decide +kernel)
def codes1 : List Jvm.Cond := [Jvm.Cond.code x code maxLocals ret, Jvm.Cond.code ({ cls := "com/example/midpoint/midpoint/rounding/ModeIsSymmetricPinLaw", name := "modeAt", desc := "(I)Lcom/example/midpoint/midpoint/rounding/Mode;" } : Jvm.MethodName) method_3_code (1 : Nat) (Option.some (Jvm.ClassFile.FieldType.object "com/example/midpoint/midpoint/rounding/Mode")), Jvm.Cond.code ({ cls := "com/example/midpoint/midpoint/rounding/Mode", name := "isSymmetric", desc := "()Z" } : Jvm.MethodName) prog_19_method_7_code (1 : Nat) (Option.some Jvm.ClassFile.FieldType.boolean), Jvm.Cond.code ({ cls := "com/example/midpoint/midpoint/rounding/Mode$1", name := "onMagnitude", desc := "(Z)Ljava/math/RoundingMode;" } : Jvm.MethodName) prog_20_method_2_code (2 : Nat) (Option.some (Jvm.ClassFile.FieldType.object "java/math/RoundingMode")), Jvm.Cond.code ({ cls := "com/example/midpoint/midpoint/rounding/Mode$4", name := "onMagnitude", desc := "(Z)Ljava/math/RoundingMode;" } : Jvm.MethodName) prog_23_method_2_code (2 : Nat) (Option.some (Jvm.ClassFile.FieldType.object "java/math/RoundingMode")), Jvm.Cond.code ({ cls := "com/example/midpoint/midpoint/rounding/Mode$3", name := "onMagnitude", desc := "(Z)Ljava/math/RoundingMode;" } : Jvm.MethodName) prog_22_method_2_code (2 : Nat) (Option.some (Jvm.ClassFile.FieldType.object "java/math/RoundingMode")), Jvm.Cond.code ({ cls := "com/example/midpoint/midpoint/rounding/Mode$2", name := "onMagnitude", desc := "(Z)Ljava/math/RoundingMode;" } : Jvm.MethodName) prog_21_method_2_code (2 : Nat) (Option.some (Jvm.ClassFile.FieldType.object "java/math/RoundingMode")), Jvm.Cond.code ({ cls := "com/example/midpoint/midpoint/rounding/Mode$8", name := "onMagnitude", desc := "(Z)Ljava/math/RoundingMode;" } : Jvm.MethodName) prog_27_method_2_code (2 : Nat) (Option.some (Jvm.ClassFile.FieldType.object "java/math/RoundingMode")), Jvm.Cond.code ({ cls := "com/example/midpoint/midpoint/rounding/Mode$5", name := "onMagnitude", desc := "(Z)Ljava/math/RoundingMode;" } : Jvm.MethodName) prog_24_method_2_code (2 : Nat) (Option.some (Jvm.ClassFile.FieldType.object "java/math/RoundingMode")), Jvm.Cond.code ({ cls := "com/example/midpoint/midpoint/rounding/Mode$9", name := "onMagnitude", desc := "(Z)Ljava/math/RoundingMode;" } : Jvm.MethodName) prog_28_method_2_code (2 : Nat) (Option.some (Jvm.ClassFile.FieldType.object "java/math/RoundingMode")), Jvm.Cond.code ({ cls := "com/example/midpoint/midpoint/rounding/Mode$7", name := "onMagnitude", desc := "(Z)Ljava/math/RoundingMode;" } : Jvm.MethodName) prog_26_method_2_code (2 : Nat) (Option.some (Jvm.ClassFile.FieldType.object "java/math/RoundingMode")), Jvm.Cond.code ({ cls := "com/example/midpoint/midpoint/rounding/Mode$6", name := "onMagnitude", desc := "(Z)Ljava/math/RoundingMode;" } : Jvm.MethodName) prog_25_method_2_code (2 : Nat) (Option.some (Jvm.ClassFile.FieldType.object "java/math/RoundingMode"))]
set_option maxRecDepth 65536 in
theorem codes_eq : words1.filter isCode = codes1 := rfl
theorem w_codes : ∀ c ∈ words1.filter isCode, c.before args0 about1 = true := by
  rw [codes_eq]
  intro c hc
  simp only [codes1, List.mem_cons, List.not_mem_nil, or_false] at hc
  rcases hc with rfl | rfl | rfl | rfl | rfl | rfl | rfl | rfl | rfl | rfl | rfl | rfl
  · exact w_c0
  · exact w_c1
  · exact w_c2
  · exact w_c3
  · exact w_c4
  · exact w_c5
  · exact w_c6
  · exact w_c7
  · exact w_c8
  · exact w_c9
  · exact w_c10
  · exact w_c11
set_option maxRecDepth 65536 in
theorem w_t1 : (words1.take 24).all (fun c => isCode c || c.before args0 about1) = true := by decide +kernel
set_option maxRecDepth 65536 in
theorem w_t2 : ((words1.drop 24).take 24).all (fun c => isCode c || c.before args0 about1) = true := by decide +kernel
set_option maxRecDepth 65536 in
theorem w_t3 : (((words1.drop 24).drop 24).take 24).all (fun c => isCode c || c.before args0 about1) = true := by decide +kernel
set_option maxRecDepth 65536 in
theorem w_t4 : (((words1.drop 24).drop 24).drop 24).all (fun c => isCode c || c.before args0 about1) = true := by decide +kernel
theorem w_tables : (allAtoms (Jvm.Cond.code x code maxLocals ret :: tables_1)).before args0 about1 = true := by
  rw [allAtoms_all]
  show words1.all (fun c => c.before args0 about1) = true
  refine all_split ?_ w_codes
  rw [← List.take_append_drop 24 words1, List.all_append, w_t1, ← List.take_append_drop 24 (words1.drop 24), List.all_append, w_t2, ← List.take_append_drop 24 ((words1.drop 24).drop 24), List.all_append, w_t3, w_t4]
  rfl
set_option maxRecDepth 65536 in
theorem w_rest : rest_1_c.before args0 about1 = true := by decide +kernel
set_option maxRecDepth 65536 in
theorem w_case : (Jvm.Cond.and given_1 narrow_1).before args0 about1 = true := by decide +kernel
theorem w_applies : (headSpec (Jvm.Cond.code x code maxLocals ret :: tables_1) room_1).applies x e0.platform about1 = true :=
  (Spec.applies_iff w_frames).mpr ⟨w_running, w_runnable, w_alone, w_named, w_hears, w_ripe, w_room, w_tables⟩
theorem atStart : AtStart classFile x code maxLocals ret World_1 tables_1 room_1 Calls_1 rest_1 Pre_1 launch0 p0 e0 about1 theMethod args0 below0 :=
  ⟨lists_1, trivial, launch0.admits_env _ _ _, launch0.least_env, fairChoices_fair.cas, fairChoices_fair.clock, w_frames, w_args, w_heap, w_applies, trivial, w_rest, w_case⟩
end start1
theorem witness_1 : WitnessClaimed_1 := ⟨start1.p0, start1.e0, start1.about1, start1.theMethod, start1.args0, start1.below0, start1.atStart⟩
end Jvm.Pilot.@@N@@
