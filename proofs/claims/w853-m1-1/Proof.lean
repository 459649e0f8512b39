import JvmDerived
import JvmDerived.Pilot.@@N@@Statement
import JvmDerived.Pilot.@@N@@Code
set_option linter.unusedVariables false
set_option linter.unusedSimpArgs false
namespace Jvm.RoadKit
open Sem ClassFile Op Lib Jvm.Stand Jvm.Free Jvm.LawKit
section New
variable {p : Program} {l : Launch} {e : Env} {R : Room} {s : State} {m : MethodId} {args : Array Value} {below : List Frame} {meth : Method} {c : Code} {T : State} {locs : List Loc} {cells slots : Nat}
theorem retI (X : Stand p l e R s m args below meth c T locs cells slots) (hx : p.tables.exec = Jvm.exec) {pc : Nat} {Ls : Array Slot} {z : Int32} {rest : List Value} (hret : meth.sig.returnType = some .int) (hd : decode c.code pc = .ok (.ireturn, 1)) {fs : List Frame}
    (hl : ∀ (f : JFrame) (acts : List Action), f.method = m → f.locked = none → f.entered = [] → (doReturn e (T.setTop f) acts (some (.int z))).1 = T.setFrames fs) : Steps p.tables e below (T.setTop (mkF m pc Ls (.int z :: rest))) (T.setFrames fs) := by
  have hm' : T.vm.method? m = some meth := X.method'
  have hn : narrow .int (.int z) = .int z := rfl
  show Steps p.tables e below (T.setTop { method := m, pc := pc, locals := Ls, stack := _ :: rest, locked := none }) _
  jvm_step X.here [X.here.top, hx, hd, hm', hret, hn]
  first | (intro acts; rw [hl _ acts rfl rfl rfl]) | rw [hl _ _ rfl rfl rfl]
  exact Steps.refl _
end New
end Jvm.RoadKit
namespace Jvm.Pilot.@@N@@
open Jvm Jvm.ClassFile Sem Op Lib Jvm.Free Jvm.Stand Jvm.LawKit Jvm.RoadKit Bundle Jvm.Pilot.@@N@@.Jvm.D
def own_Go {p : Program} {l : Launch} {e : Env} {R : Room} {s : State} {m : MethodId} {args : Array Value} {below : List Frame} {meth : Method} {c : Code} {T : State} {locs : List Loc} {cells slots : Nat} (_ : Stand p l e R s m args below meth c T locs cells slots) (h : Heap) (T' : State) : Prop := Stand p l e R s m args below meth c T' locs cells slots ∧ T'.heap = h
def own_AL (Z : State) (h : Heap) (a ea : Addr) (z : Int32) (vs : Nat → Value) : Prop := Exa Z h a "java/util/ArrayList" ∧ (∃ mc : Int32, Fld Z h a "java/util/AbstractList" "modCount" "I" (.int mc)) ∧ Fld Z h a "java/util/ArrayList" "elementData" "[Ljava/lang/Object;" (.ref ea) ∧ Fld Z h a "java/util/ArrayList" "size" "I" (.int z) ∧ (∃ c, Arr Z h ea c (.object "java/lang/Object") ∧ Ovr Z c.cls "java/lang/Object" ∧ c.slots.size = 10 ∧ ∀ i, i < 10 → c.slots[i]? = some (vs i)) ∧ a ≠ ea
theorem own_AL_lt {Z : State} {h : Heap} {a ea : Addr} {z : Int32} {vs : Nat → Value} (A : own_AL Z h a ea z vs) : ea < h.size := by obtain ⟨-, -, -, -, ⟨c, q, -⟩, -⟩ := A; exact q.lt
theorem own_arrKeep {Z : State} {h h' : Heap} {a : Addr} {c : Cell} {ty : FieldType} {ws : List Addr} (A : Arr Z h a c ty) (K : Keep h h' ws) (q : a ∉ ws) : Arr Z h' a c ty := ⟨K.2.1 a c A.1 q, A.2⟩
theorem own_insKeep {Z : State} {h h' : Heap} {a : Addr} {C : String} {b : Bool} {ws : List Addr} (F : Ins Z h a C b) (K : Keep h h' ws) : Ins Z h' a C b := by
  obtain ⟨cell, cT, h1, h2, h3⟩ := F
  obtain ⟨c', q, r1, r2, -⟩ := K.2.2 a cell h1
  exact ⟨c', cT, q, h2, by rw [r1, r2]; exact h3⟩
theorem own_AL_keep {Z : State} {h h' : Heap} {a ea : Addr} {z : Int32} {vs : Nat → Value} {ws : List Addr} (A : own_AL Z h a ea z vs) (K : Keep h h' ws) (q : a ∉ ws) (r : ea ∉ ws) : own_AL Z h' a ea z vs := by
  obtain ⟨E, ⟨mc, F1⟩, F2, F3, ⟨c, B, o, s, v⟩, n⟩ := A
  exact ⟨E.keep K, ⟨mc, F1.keep K q⟩, F2.keep K q, F3.keep K q, ⟨c, own_arrKeep B K r, o, s, v⟩, n⟩
theorem own_AL_wr {Z : State} {h h' : Heap} {a ea b : Addr} {z : Int32} {vs : Nat → Value} {sl : Nat} {x : Value} (A : own_AL Z h a ea z vs) (W : Wr h h' b sl x) (q : a ≠ b) (r : ea ≠ b) : own_AL Z h' a ea z vs := own_AL_keep A (Keep.of_wr W) (ninS q nin0) (ninS r nin0)
theorem own_AL.ext {Z : State} {h h' : Heap} {a ea : Addr} {z : Int32} {vs : Nat → Value} (A : own_AL Z h a ea z vs) (E' : Ext h h') : own_AL Z h' a ea z vs := by
  obtain ⟨E, ⟨mc, F1⟩, F2, F3, ⟨c, B, o, s, v⟩, n⟩ := A
  exact ⟨E.ext E', ⟨mc, F1.ext E'⟩, F2.ext E', F3.ext E', ⟨c, B.ext E', o, s, v⟩, n⟩
def own_uv (f : Nat → Value) (i : Nat) (x : Value) : Nat → Value := fun j => if j = i then x else f j
theorem own_setV {c : Cell} {m i : Nat} {f : Nat → Value} {x : Value} (hz : c.slots.size = m) (hi : i < m) (hv : ∀ j, j < m → c.slots[j]? = some (f j)) : ∀ j, j < m → (c.setSlot i x).slots[j]? = some (own_uv f i x j) := fun j hj => by
  by_cases e : j = i
  · subst e; simp [Cell.setSlot, own_uv, hz, hi]
  · simp only [Cell.setSlot, own_uv, if_neg e]; rw [Array.getElem?_setIfInBounds_ne (Ne.symm e)]; exact hv j hj
def own_W (Z : State) (D : Addr) (cD : Cell) (ich : Addr) (icc : Cell) (kA kS f0 f1 f2 f3 : Addr) : Prop := Sta Z Z.heap "java/util/ArrayList" "DEFAULTCAPACITY_EMPTY_ELEMENTDATA" "[Ljava/lang/Object;" (.ref D) ∧ Arr Z Z.heap D cD (.object "java/lang/Object") ∧ cD.slots.size = 0 ∧ Sta Z Z.heap "java/lang/Integer$IntegerCache" "high" "I" (.int (127 : Int32)) ∧ Sta Z Z.heap "java/lang/Integer$IntegerCache" "cache" "[Ljava/lang/Integer;" (.ref ich) ∧ Arr Z Z.heap ich icc (.object "java/lang/Integer") ∧ icc.slots.size = 256 ∧ (∀ i, i < 256 → ∃ r, icc.slots[i]? = some (.ref r) ∧ Exa Z Z.heap r "java/lang/Integer" ∧ Fld Z Z.heap r "java/lang/Integer" "value" "I" (.int (Int32.ofNat i - (128 : Int32)))) ∧ Sta Z Z.heap "com/example/witnesseth/witnesseth/Heading$Kind" "ARTICLE" "Lcom/example/witnesseth/witnesseth/Heading$Kind;" (.ref kA) ∧ Sta Z Z.heap "com/example/witnesseth/witnesseth/Heading$Kind" "SECTION" "Lcom/example/witnesseth/witnesseth/Heading$Kind;" (.ref kS) ∧ ¬ (kA = kS) ∧ Sta Z Z.heap "com/example/witnesseth/witnesseth/HeadingLine$Form" "ARTICLE" "Lcom/example/witnesseth/witnesseth/HeadingLine$Form;" (.ref f0) ∧ Sta Z Z.heap "com/example/witnesseth/witnesseth/HeadingLine$Form" "SECTION" "Lcom/example/witnesseth/witnesseth/HeadingLine$Form;" (.ref f1) ∧ Sta Z Z.heap "com/example/witnesseth/witnesseth/HeadingLine$Form" "BARE" "Lcom/example/witnesseth/witnesseth/HeadingLine$Form;" (.ref f2) ∧ Sta Z Z.heap "com/example/witnesseth/witnesseth/HeadingLine$Form" "NUMBERED" "Lcom/example/witnesseth/witnesseth/HeadingLine$Form;" (.ref f3)
theorem own_d3_0 : decode jdk_22_method_1_code 0 = .ok (.aload_n 0, 1) := by decide +kernel
theorem own_d3_1 : decode jdk_22_method_1_code 1 = .ok (.invokespecial 1, 3) := by decide +kernel
theorem own_d3_4 : decode jdk_22_method_1_code 4 = .ok (.return_, 1) := by decide +kernel
def own_Q_abc (Z : State) (a : Addr) (h0 : Heap) (n0 : Nat) (vv_ : Option Value) (hh_ : Heap) (LL_ : List Loc) : Prop := vv_ = none ∧ LL_ = [] ∧ hh_ = h0
theorem own_ef3 (m : MethodId) (x0 : Addr) : entryFrame m #[(.ref x0)] 1 = mkF m 0 #[.val (.ref x0)] [] := by first | (simp [entryFrame, mkF, argsToLocals, Value.category]; done) | rfl
theorem own_pn0 : plainName "java/util/AbstractCollection" = true := by first | (simp [plainName, overriddenIn]; done) | decide +kernel
set_option maxRecDepth 65536 in
set_option maxHeartbeats 40000000 in
theorem own_abc (l : Launch) (Z : State) (a0 : Array Value) (hw : ∀ d ∈ tables_1, d.before a0 Z = true) (ws : List Jvm.Cond) (a : Addr) (h0 : Heap) (n0 : Nat) (O0 : Old Z n0 h0)   :
    MetFree l (⟨"java/util/AbstractCollection", "<init>", "()V"⟩ : MethodName) (head1 (Jvm.Cond.code (⟨"java/util/AbstractCollection", "<init>", "()V"⟩ : MethodName) jdk_22_method_1_code 1 none :: ws) ({ frames := 1, cells := 0, slots := 0, locals := 12 } : Room)) (fun aa_ U_ => aa_ = #[(.ref a)] ∧ Z.Warmed39 U_.vm ∧ U_.heap = h0) (fun _ _ _ _ _ => True) (fun _ U_ oo_ UU_ => ∃ vv_ LL_, oo_ = .returned vv_ ∧ own_Q_abc Z a h0 n0 vv_ UU_.heap LL_ ∧ FrameEnd U_ oo_ UU_ LL_ ({ frames := 1, cells := 0, slots := 0, locals := 12 } : Room).cells ({ frames := 1, cells := 0, slots := 0, locals := 12 } : Room).slots) := by
  refine MetFree.of_bodySF (plainFor_of_name own_pn0) hisR ?_
  intro p e s m args below meth c s₁ Bd hml0 hP hK
  obtain ⟨rfl, hZ, hh⟩ := hP
  have hx := Bd.exec
  have hby := Bd.bytes
  have hml : c.maxLocals = 1 := hml0
  have hown : s.vm.findClass "java/util/AbstractCollection" = some m.cls := findClass_of_methodNamed Bd.named
  have hnm := (name_of_methodNamed Bd.named Bd.method).1
  have X0 : Stand p l e ({ frames := 1, cells := 0, slots := 0, locals := 12 } : Room) s m #[(.ref a)] below meth c s₁ [] 0 0 := Stand.of_body Bd
  have e0 : s₁.heap = h0 := by rw [← hh, Bd.state]; rfl
  have N0 := Fr.nil n0
  have pre0 : ∀ tt_, Steps p.tables e below (s₁.setTop (mkF m 0 #[.val (.ref a)] [])) tt_ → Steps p.tables e below (s₁.setTop (entryFrame m #[(.ref a)] 1)) tt_ := fun tt_ kk_ => castTop (own_ef3 m a) kk_
  obtain ⟨T1, X1, e1, st1⟩ := initO X0 hx hZ hown (hw _ (List.mem_of_getElem? (i := 18) rfl)) (hw _ (List.mem_of_getElem? (i := 19) rfl)) (hw _ (List.mem_of_getElem? (i := 20) rfl)) e0 (g := (mkF m 1 #[.val (.ref a)] [(.ref a)])) rfl (by rw [hml]; rfl) rfl (hb hby own_d3_1) (by decide) (W := 0) (by show 2 * 0 + _ ≤ _; exact Nat.le_of_eq rfl) (by decide)
  obtain ⟨fs, hr, hrun, hended, hW, hsame⟩ := X1.leave (v := none) (fun _ => rfl)
  refine ⟨_, _, pre0 _ ?_, hrun, hended, _, _, rfl, ?_, ⟨_, rfl⟩, hW, hsame.mono (by decide) (by decide)⟩
  · show Steps p.tables e below (s₁.setTop (mkF m 0 #[.val (.ref a)] [])) _
    refine XS.aloadN X0.here hx rfl (hb hby own_d3_0) rfl rfl ?_
    show Steps p.tables e below (s₁.setTop (mkF m 1 #[.val (.ref a)] [(.ref a)])) _
    refine st1 _ ?_
    show Steps p.tables e below (T1.setTop (mkF m 4 #[.val (.ref a)] [])) _
    exact X1.returnOut hx Bd.returns (hb hby own_d3_4) hr
  · show own_Q_abc Z a h0 n0 _ T1.heap _
    rw [e1]
    exact ⟨rfl, rfl, rfl⟩
theorem own_d2_0 : decode jdk_39_method_1_code 0 = .ok (.aload_n 0, 1) := by decide +kernel
theorem own_d2_1 : decode jdk_39_method_1_code 1 = .ok (.invokespecial 1, 3) := by decide +kernel
theorem own_pd0 : parseMethodDescriptor "()V" = some ⟨[], none⟩ := by decide +kernel
theorem own_d2_4 : decode jdk_39_method_1_code 4 = .ok (.aload_n 0, 1) := by decide +kernel
theorem own_d2_5 : decode jdk_39_method_1_code 5 = .ok (.iconst 0, 1) := by decide +kernel
theorem own_d2_6 : decode jdk_39_method_1_code 6 = .ok (.putfield 7, 3) := by decide +kernel
theorem own_d2_9 : decode jdk_39_method_1_code 9 = .ok (.return_, 1) := by decide +kernel
def own_Q_abl (Z : State) (a : Addr) (h0 : Heap) (n0 : Nat) (vv_ : Option Value) (hh_ : Heap) (LL_ : List Loc) : Prop := vv_ = none ∧ Fr n0 LL_ ∧ Old Z n0 hh_ ∧ Keep h0 hh_ [a] ∧ Exa Z hh_ a "java/util/ArrayList" ∧ Fld Z hh_ a "java/util/AbstractList" "modCount" "I" (.int (0 : Int32)) ∧ Fld Z hh_ a "java/util/ArrayList" "elementData" "[Ljava/lang/Object;" .null ∧ Fld Z hh_ a "java/util/ArrayList" "size" "I" (.int (0 : Int32))
theorem own_ef2 (m : MethodId) (x0 : Addr) : entryFrame m #[(.ref x0)] 1 = mkF m 0 #[.val (.ref x0)] [] := by first | (simp [entryFrame, mkF, argsToLocals, Value.category]; done) | rfl
theorem own_pn1 : plainName "java/util/AbstractList" = true := by first | (simp [plainName, overriddenIn]; done) | decide +kernel
set_option maxRecDepth 65536 in
set_option maxHeartbeats 40000000 in
theorem own_abl (l : Launch) (Z : State) (a0 : Array Value) (hw : ∀ d ∈ tables_1, d.before a0 Z = true) (ws : List Jvm.Cond) (a : Addr) (h0 : Heap) (n0 : Nat) (O0 : Old Z n0 h0)  (pm_E_a : Exa Z h0 a "java/util/ArrayList") (pm_F_a_modCount : Fld Z h0 a "java/util/AbstractList" "modCount" "I" (.int (0 : Int32))) (pm_F_a_elementData : Fld Z h0 a "java/util/ArrayList" "elementData" "[Ljava/lang/Object;" .null) (pm_F_a_size : Fld Z h0 a "java/util/ArrayList" "size" "I" (.int (0 : Int32))) (pm_ge_a : n0 ≤ a) :
    MetFree l (⟨"java/util/AbstractList", "<init>", "()V"⟩ : MethodName) (head1 (Jvm.Cond.code (⟨"java/util/AbstractList", "<init>", "()V"⟩ : MethodName) jdk_39_method_1_code 1 none :: ws) ({ frames := 2, cells := 0, slots := 0, locals := 24 } : Room)) (fun aa_ U_ => aa_ = #[(.ref a)] ∧ Z.Warmed39 U_.vm ∧ U_.heap = h0) (fun _ _ _ _ _ => True) (fun _ U_ oo_ UU_ => ∃ vv_ LL_, oo_ = .returned vv_ ∧ own_Q_abl Z a h0 n0 vv_ UU_.heap LL_ ∧ FrameEnd U_ oo_ UU_ LL_ ({ frames := 2, cells := 0, slots := 0, locals := 24 } : Room).cells ({ frames := 2, cells := 0, slots := 0, locals := 24 } : Room).slots) := by
  refine MetFree.of_bodySF (plainFor_of_name own_pn1) hisR ?_
  intro p e s m args below meth c s₁ Bd hml0 hP hK
  obtain ⟨rfl, hZ, hh⟩ := hP
  have hx := Bd.exec
  have hby := Bd.bytes
  have hml : c.maxLocals = 1 := hml0
  have hown : s.vm.findClass "java/util/AbstractList" = some m.cls := findClass_of_methodNamed Bd.named
  have hnm := (name_of_methodNamed Bd.named Bd.method).1
  have X0 : Stand p l e ({ frames := 2, cells := 0, slots := 0, locals := 24 } : Room) s m #[(.ref a)] below meth c s₁ [] 0 0 := Stand.of_body Bd
  have e0 : s₁.heap = h0 := by rw [← hh, Bd.state]; rfl
  have N0 := Fr.nil n0
  have pre0 : ∀ tt_, Steps p.tables e below (s₁.setTop (mkF m 0 #[.val (.ref a)] [])) tt_ → Steps p.tables e below (s₁.setTop (entryFrame m #[(.ref a)] 1)) tt_ := fun tt_ kk_ => castTop (own_ef2 m a) kk_
  obtain ⟨_, _, ⟨T1, L1, k1, n1⟩, -, X1, ⟨Lc1, hQ1, l1, y1, z1⟩, st1⟩ := X0.specialBack hx (y := (⟨"java/util/AbstractCollection", "<init>", "()V"⟩ : MethodName)) rfl hown (mvT hZ (hw _ (List.mem_of_getElem? (i := 12) rfl))) (mvT hZ (hw _ (List.mem_of_getElem? (i := 13) rfl))) (mvT hZ (hw _ (List.mem_of_getElem? (i := 17) rfl))) (by decide) (backOf (W := 0) (own_abc l Z a0 hw [] a h0 n0 O0  ) hZ (hw _ (List.mem_of_getElem? (i := 17) rfl)) (hw _ (List.mem_of_getElem? (i := 16) rfl)) (by decide) (by decide)) (g := (mkF m 1 #[.val (.ref a)] [(.ref a)])) rfl (by rw [hml]; rfl) (Steps.refl _) (a := a) (argsL := []) (rest := []) (lenOf own_pd0 rfl) rfl (by show 2 * 0 + _ ≤ _; exact Nat.le_of_eq rfl) (hb hby own_d2_1) (fun _ _ => ⟨rfl, e0, (by decide : 0 + 0 ≤ _), (by decide : 0 + 0 ≤ _)⟩)
  dsimp only [Pt.U, Pt.locs, Pt.cells, Pt.slots] at X1 l1 y1 z1 st1 hQ1
  subst l1 y1 z1
  obtain ⟨rfl, rfl, e1⟩ := hQ1
  try rw [List.append_nil] at X1
  obtain ⟨T2, h2, X2, e2, W2, st2⟩ := putF X1 hx hZ hown (host := "") (Or.inl (hw _ (List.mem_of_getElem? (i := 21) rfl))) Via.refl e1 pm_F_a_modCount pm_E_a (Or.inl (hw _ (List.mem_of_getElem? (i := 22) rfl))) (hw _ (List.mem_of_getElem? (i := 1) rfl)) (ty := .int) (by decide) rfl rfl (g := (mkF m 6 #[.val (.ref a)] [(.int (0 : Int32)), (.ref a)])) rfl rfl (hb hby own_d2_6)
  have f2_E_a := pm_E_a.wr W2
  have f2_F_a_modCount := pm_F_a_modCount.same W2
  have f2_F_a_elementData := pm_F_a_elementData.other W2 (Or.inr (slot_ne (Or.inl (hw _ (List.mem_of_getElem? (i := 25) rfl))) (Or.inl (hw _ (List.mem_of_getElem? (i := 22) rfl))) (by decide) (t := (.array (.object "java/lang/Object"))) (t' := .int) (by decide) (by decide)))
  have f2_F_a_size := pm_F_a_size.other W2 (Or.inr (slot_ne (Or.inl (hw _ (List.mem_of_getElem? (i := 45) rfl))) (Or.inl (hw _ (List.mem_of_getElem? (i := 22) rfl))) (by decide) (t := .int) (t' := .int) (by decide) (by decide)))
  have O2 := O0.wr W2 pm_ge_a
  have KC2 := (Keep.refl h0 [a]).wr W2 (Or.inl (List.mem_of_getElem? (i := 0) rfl))
  have N2 := Fr.snoc X2 N0 pm_ge_a
  obtain ⟨fs, hr, hrun, hended, hW, hsame⟩ := X2.leave (v := none) (fun _ => rfl)
  refine ⟨_, _, pre0 _ ?_, hrun, hended, _, _, rfl, ?_, ⟨_, rfl⟩, hW, hsame.mono (by decide) (by decide)⟩
  · show Steps p.tables e below (s₁.setTop (mkF m 0 #[.val (.ref a)] [])) _
    refine XS.aloadN X0.here hx rfl (hb hby own_d2_0) rfl rfl ?_
    show Steps p.tables e below (s₁.setTop (mkF m 1 #[.val (.ref a)] [(.ref a)])) _
    refine st1.trans ?_
    show Steps p.tables e below (T1.setTop (mkF m 4 #[.val (.ref a)] [])) _
    refine XS.aloadN X1.here hx rfl (hb hby own_d2_4) rfl rfl ?_
    show Steps p.tables e below (T1.setTop (mkF m 5 #[.val (.ref a)] [(.ref a)])) _
    refine XS.iconst X1.here hx rfl (hb hby own_d2_5) ?_
    show Steps p.tables e below (T1.setTop (mkF m 6 #[.val (.ref a)] [(.int (0 : Int32)), (.ref a)])) _
    refine st2 _ ?_
    show Steps p.tables e below (T2.setTop (mkF m 9 #[.val (.ref a)] [])) _
    exact X2.returnOut hx Bd.returns (hb hby own_d2_9) hr
  · show own_Q_abl Z a h0 n0 _ T2.heap _
    rw [e2]
    exact ⟨rfl, N2, O2, KC2, f2_E_a, f2_F_a_modCount, f2_F_a_elementData, f2_F_a_size⟩
theorem own_d1_0 : decode jdk_38_method_2_code 0 = .ok (.aload_n 0, 1) := by decide +kernel
theorem own_d1_1 : decode jdk_38_method_2_code 1 = .ok (.invokespecial 1, 3) := by decide +kernel
theorem own_d1_4 : decode jdk_38_method_2_code 4 = .ok (.aload_n 0, 1) := by decide +kernel
theorem own_d1_5 : decode jdk_38_method_2_code 5 = .ok (.getstatic 39, 3) := by decide +kernel
theorem own_d1_8 : decode jdk_38_method_2_code 8 = .ok (.putfield 9, 3) := by decide +kernel
theorem own_d1_11 : decode jdk_38_method_2_code 11 = .ok (.return_, 1) := by decide +kernel
def own_Q_ali (Z : State) (a : Addr) (D : Addr) (cD : Cell) (ich : Addr) (icc : Cell) (kA : Addr) (kS : Addr) (f0 : Addr) (f1 : Addr) (f2 : Addr) (f3 : Addr) (h0 : Heap) (n0 : Nat) (vv_ : Option Value) (hh_ : Heap) (LL_ : List Loc) : Prop := vv_ = none ∧ Fr n0 LL_ ∧ Old Z n0 hh_ ∧ Keep h0 hh_ [a] ∧ Exa Z hh_ a "java/util/ArrayList" ∧ Fld Z hh_ a "java/util/AbstractList" "modCount" "I" (.int (0 : Int32)) ∧ Fld Z hh_ a "java/util/ArrayList" "elementData" "[Ljava/lang/Object;" (.ref D) ∧ Fld Z hh_ a "java/util/ArrayList" "size" "I" (.int (0 : Int32))
theorem own_ef1 (m : MethodId) (x0 : Addr) : entryFrame m #[(.ref x0)] 1 = mkF m 0 #[.val (.ref x0)] [] := by first | (simp [entryFrame, mkF, argsToLocals, Value.category]; done) | rfl
theorem own_pn2 : plainName "java/util/ArrayList" = true := by first | (simp [plainName, overriddenIn]; done) | decide +kernel
set_option maxRecDepth 65536 in
set_option maxHeartbeats 40000000 in
theorem own_ali (l : Launch) (Z : State) (a0 : Array Value) (hw : ∀ d ∈ tables_1, d.before a0 Z = true) (ws : List Jvm.Cond) (a : Addr) (D : Addr) (cD : Cell) (ich : Addr) (icc : Cell) (kA : Addr) (kS : Addr) (f0 : Addr) (f1 : Addr) (f2 : Addr) (f3 : Addr) (h0 : Heap) (n0 : Nat) (O0 : Old Z n0 h0) (K : own_W Z D cD ich icc kA kS f0 f1 f2 f3) (pm_E_a : Exa Z h0 a "java/util/ArrayList") (pm_F_a_modCount : Fld Z h0 a "java/util/AbstractList" "modCount" "I" (.int (0 : Int32))) (pm_F_a_elementData : Fld Z h0 a "java/util/ArrayList" "elementData" "[Ljava/lang/Object;" .null) (pm_F_a_size : Fld Z h0 a "java/util/ArrayList" "size" "I" (.int (0 : Int32))) (pm_ge_a : n0 ≤ a) :
    MetFree l (⟨"java/util/ArrayList", "<init>", "()V"⟩ : MethodName) (head1 (Jvm.Cond.code (⟨"java/util/ArrayList", "<init>", "()V"⟩ : MethodName) jdk_38_method_2_code 1 none :: ws) ({ frames := 3, cells := 0, slots := 0, locals := 36 } : Room)) (fun aa_ U_ => aa_ = #[(.ref a)] ∧ Z.Warmed39 U_.vm ∧ U_.heap = h0) (fun _ _ _ _ _ => True) (fun _ U_ oo_ UU_ => ∃ vv_ LL_, oo_ = .returned vv_ ∧ own_Q_ali Z a D cD ich icc kA kS f0 f1 f2 f3 h0 n0 vv_ UU_.heap LL_ ∧ FrameEnd U_ oo_ UU_ LL_ ({ frames := 3, cells := 0, slots := 0, locals := 36 } : Room).cells ({ frames := 3, cells := 0, slots := 0, locals := 36 } : Room).slots) := by
  obtain ⟨SD, AD0, zD, SH, SC, AC0, zC, vC, SA, SS, neAS, S0, S1, S2, S3⟩ := K
  refine MetFree.of_bodySF (plainFor_of_name own_pn2) hisR ?_
  intro p e s m args below meth c s₁ Bd hml0 hP hK
  obtain ⟨rfl, hZ, hh⟩ := hP
  have hx := Bd.exec
  have hby := Bd.bytes
  have hml : c.maxLocals = 1 := hml0
  have hown : s.vm.findClass "java/util/ArrayList" = some m.cls := findClass_of_methodNamed Bd.named
  have hnm := (name_of_methodNamed Bd.named Bd.method).1
  have X0 : Stand p l e ({ frames := 3, cells := 0, slots := 0, locals := 36 } : Room) s m #[(.ref a)] below meth c s₁ [] 0 0 := Stand.of_body Bd
  have e0 : s₁.heap = h0 := by rw [← hh, Bd.state]; rfl
  have N0 := Fr.nil n0
  have pre0 : ∀ tt_, Steps p.tables e below (s₁.setTop (mkF m 0 #[.val (.ref a)] [])) tt_ → Steps p.tables e below (s₁.setTop (entryFrame m #[(.ref a)] 1)) tt_ := fun tt_ kk_ => castTop (own_ef1 m a) kk_
  obtain ⟨_, _, ⟨T1, L1, k1, n1⟩, -, X1, ⟨Lc1, hQ1, l1, y1, z1⟩, st1⟩ := X0.specialBack hx (y := (⟨"java/util/AbstractList", "<init>", "()V"⟩ : MethodName)) rfl hown (mvT hZ (hw _ (List.mem_of_getElem? (i := 6) rfl))) (mvT hZ (hw _ (List.mem_of_getElem? (i := 7) rfl))) (mvT hZ (hw _ (List.mem_of_getElem? (i := 11) rfl))) (by decide) (backOf (W := 0) (own_abl l Z a0 hw [] a h0 n0 O0  pm_E_a pm_F_a_modCount pm_F_a_elementData pm_F_a_size pm_ge_a) hZ (hw _ (List.mem_of_getElem? (i := 11) rfl)) (hw _ (List.mem_of_getElem? (i := 10) rfl)) (by decide) (by decide)) (g := (mkF m 1 #[.val (.ref a)] [(.ref a)])) rfl (by rw [hml]; rfl) (Steps.refl _) (a := a) (argsL := []) (rest := []) (lenOf own_pd0 rfl) rfl (by show 2 * 0 + _ ≤ _; exact Nat.le_of_eq rfl) (hb hby own_d1_1) (fun _ _ => ⟨rfl, e0, (by decide : 0 + 0 ≤ _), (by decide : 0 + 0 ≤ _)⟩)
  dsimp only [Pt.U, Pt.locs, Pt.cells, Pt.slots] at X1 l1 y1 z1 st1 hQ1
  subst l1 y1 z1
  obtain ⟨rfl, N1q, O1, K1, p1_E_a, p1_F_a_modCount, p1_F_a_elementData, p1_F_a_size⟩ := hQ1
  have N1 := Fr.app N0 N1q
  have KC1 := (Keep.refl h0 [a]).trans K1 (allS (Or.inl (List.mem_of_getElem? (i := 0) rfl)) all0)
  obtain ⟨T2, X2, e2, st2⟩ := getS2 X1 hx hZ hown (host := "") (Or.inl (hw _ (List.mem_of_getElem? (i := 23) rfl))) Via.refl rfl (SD.ext O1.2) (g := (mkF m 5 #[.val (.ref a)] [(.ref a)])) rfl (hb hby own_d1_5)
  obtain ⟨T3, h3, X3, e3, W3, st3⟩ := putF X2 hx hZ hown (host := "") (Or.inl (hw _ (List.mem_of_getElem? (i := 24) rfl))) Via.refl e2 p1_F_a_elementData p1_E_a (Or.inl (hw _ (List.mem_of_getElem? (i := 25) rfl))) (hw _ (List.mem_of_getElem? (i := 1) rfl)) (ty := (.array (.object "java/lang/Object"))) (by decide) rfl rfl (g := (mkF m 8 #[.val (.ref a)] [(.ref D), (.ref a)])) rfl rfl (hb hby own_d1_8)
  have f3_E_a := p1_E_a.wr W3
  have f3_F_a_modCount := p1_F_a_modCount.other W3 (Or.inr (slot_ne (Or.inl (hw _ (List.mem_of_getElem? (i := 22) rfl))) (Or.inl (hw _ (List.mem_of_getElem? (i := 25) rfl))) (by decide) (t := .int) (t' := (.array (.object "java/lang/Object"))) (by decide) (by decide)))
  have f3_F_a_elementData := p1_F_a_elementData.same W3
  have f3_F_a_size := p1_F_a_size.other W3 (Or.inr (slot_ne (Or.inl (hw _ (List.mem_of_getElem? (i := 45) rfl))) (Or.inl (hw _ (List.mem_of_getElem? (i := 25) rfl))) (by decide) (t := .int) (t' := (.array (.object "java/lang/Object"))) (by decide) (by decide)))
  have O3 := O1.wr W3 pm_ge_a
  have KC3 := KC1.wr W3 (Or.inl (List.mem_of_getElem? (i := 0) rfl))
  have N3 := Fr.snoc X3 N1 pm_ge_a
  obtain ⟨fs, hr, hrun, hended, hW, hsame⟩ := X3.leave (v := none) (fun _ => rfl)
  refine ⟨_, _, pre0 _ ?_, hrun, hended, _, _, rfl, ?_, ⟨_, rfl⟩, hW, hsame.mono (by decide) (by decide)⟩
  · show Steps p.tables e below (s₁.setTop (mkF m 0 #[.val (.ref a)] [])) _
    refine XS.aloadN X0.here hx rfl (hb hby own_d1_0) rfl rfl ?_
    show Steps p.tables e below (s₁.setTop (mkF m 1 #[.val (.ref a)] [(.ref a)])) _
    refine st1.trans ?_
    show Steps p.tables e below (T1.setTop (mkF m 4 #[.val (.ref a)] [])) _
    refine XS.aloadN X1.here hx rfl (hb hby own_d1_4) rfl rfl ?_
    show Steps p.tables e below (T1.setTop (mkF m 5 #[.val (.ref a)] [(.ref a)])) _
    refine st2 _ ?_
    show Steps p.tables e below (T2.setTop (mkF m 8 #[.val (.ref a)] [(.ref D), (.ref a)])) _
    refine st3 _ ?_
    show Steps p.tables e below (T3.setTop (mkF m 11 #[.val (.ref a)] [])) _
    exact X3.returnOut hx Bd.returns (hb hby own_d1_11) hr
  · show own_Q_ali Z a D cD ich icc kA kS f0 f1 f2 f3 h0 n0 _ T3.heap _
    rw [e3]
    exact ⟨rfl, N3, O3, KC3, f3_E_a, f3_F_a_modCount, f3_F_a_elementData, f3_F_a_size⟩
theorem own_d10_0 : decode jdk_29_method_65_code 0 = .ok (.iload_n 0, 1) := by decide +kernel
theorem own_d10_1 : decode jdk_29_method_65_code 1 = .ok (.iload_n 1, 1) := by decide +kernel
theorem own_d10_2 : decode jdk_29_method_65_code 2 = .ok (.if_icmp .lt 7, 3) := by decide +kernel
theorem own_d10_5 : decode jdk_29_method_65_code 5 = .ok (.iload_n 0, 1) := by decide +kernel
theorem own_d10_6 : decode jdk_29_method_65_code 6 = .ok (.goto 4, 3) := by decide +kernel
theorem own_d10_10 : decode jdk_29_method_65_code 10 = .ok (.ireturn, 1) := by decide +kernel
def own_Q_max (Z : State)  (h0 : Heap) (n0 : Nat) (vv_ : Option Value) (hh_ : Heap) (LL_ : List Loc) : Prop := vv_ = some (.int (10 : Int32)) ∧ LL_ = [] ∧ hh_ = h0
theorem own_ef10 (m : MethodId) (x0 : Int32) (x1 : Int32) : entryFrame m #[(.int x0), (.int x1)] 2 = mkF m 0 #[.val (.int x0), .val (.int x1)] [] := by first | (simp [entryFrame, mkF, argsToLocals, Value.category]; done) | rfl
set_option maxRecDepth 65536 in
set_option maxHeartbeats 40000000 in
theorem own_max (l : Launch) (Z : State) (a0 : Array Value) (hw : ∀ d ∈ tables_1, d.before a0 Z = true) (ws : List Jvm.Cond)  (h0 : Heap) (n0 : Nat) (O0 : Old Z n0 h0)   :
    MetFree l (⟨"java/lang/Math", "max", "(II)I"⟩ : MethodName) (head1 (Jvm.Cond.code (⟨"java/lang/Math", "max", "(II)I"⟩ : MethodName) jdk_29_method_65_code 2 (some .int) :: ws) ({ frames := 0, cells := 0, slots := 0, locals := 0 } : Room)) (fun aa_ U_ => aa_ = #[(.int (10 : Int32)), (.int (1 : Int32))] ∧ Z.Warmed39 U_.vm ∧ U_.heap = h0) (fun _ _ _ _ _ => True) (fun _ U_ oo_ UU_ => ∃ vv_ LL_, oo_ = .returned vv_ ∧ own_Q_max Z  h0 n0 vv_ UU_.heap LL_ ∧ FrameEnd U_ oo_ UU_ LL_ ({ frames := 0, cells := 0, slots := 0, locals := 0 } : Room).cells ({ frames := 0, cells := 0, slots := 0, locals := 0 } : Room).slots) := by
  refine MetFree.of_bodySF (Jvm.Free.JP.mathPlain rfl (by decide +kernel)) hisR ?_
  intro p e s m args below meth c s₁ Bd hml0 hP hK
  obtain ⟨rfl, hZ, hh⟩ := hP
  have hx := Bd.exec
  have hby := Bd.bytes
  have hml : c.maxLocals = 2 := hml0
  have hown : s.vm.findClass "java/lang/Math" = some m.cls := findClass_of_methodNamed Bd.named
  have hnm := (name_of_methodNamed Bd.named Bd.method).1
  have X0 : Stand p l e ({ frames := 0, cells := 0, slots := 0, locals := 0 } : Room) s m #[(.int (10 : Int32)), (.int (1 : Int32))] below meth c s₁ [] 0 0 := Stand.of_body Bd
  have e0 : s₁.heap = h0 := by rw [← hh, Bd.state]; rfl
  have N0 := Fr.nil n0
  have pre0 : ∀ tt_, Steps p.tables e below (s₁.setTop (mkF m 0 #[.val (.int (10 : Int32)), .val (.int (1 : Int32))] [])) tt_ → Steps p.tables e below (s₁.setTop (entryFrame m #[(.int (10 : Int32)), (.int (1 : Int32))] 2)) tt_ := fun tt_ kk_ => castTop (own_ef10 m (10 : Int32) (1 : Int32)) kk_
  obtain ⟨fs, hr, hrun, hended, hW, hsame⟩ := X0.leave (v := some (.int (10 : Int32))) (fun h => by rw [Bd.returns] at h; cases h)
  refine ⟨_, _, pre0 _ ?_, hrun, hended, _, _, rfl, ?_, ⟨_, rfl⟩, hW, hsame.mono (by decide) (by decide)⟩
  · show Steps p.tables e below (s₁.setTop (mkF m 0 #[.val (.int (10 : Int32)), .val (.int (1 : Int32))] [])) _
    refine XS.iloadN X0.here hx rfl (hb hby own_d10_0) rfl ?_
    show Steps p.tables e below (s₁.setTop (mkF m 1 #[.val (.int (10 : Int32)), .val (.int (1 : Int32))] [(.int (10 : Int32))])) _
    refine XS.iloadN X0.here hx rfl (hb hby own_d10_1) rfl ?_
    show Steps p.tables e below (s₁.setTop (mkF m 2 #[.val (.int (10 : Int32)), .val (.int (1 : Int32))] [(.int (1 : Int32)), (.int (10 : Int32))])) _
    refine XS.icmpNo X0.here hx rfl (hb hby own_d10_2) rfl (flt (by decide : ¬ ((10 : Int32) < (1 : Int32)))).1 ?_
    show Steps p.tables e below (s₁.setTop (mkF m 5 #[.val (.int (10 : Int32)), .val (.int (1 : Int32))] [])) _
    refine XS.iloadN X0.here hx rfl (hb hby own_d10_5) rfl ?_
    show Steps p.tables e below (s₁.setTop (mkF m 6 #[.val (.int (10 : Int32)), .val (.int (1 : Int32))] [(.int (10 : Int32))])) _
    refine XS.goto X0.here hx rfl (pc0 := 6) (pc' := 10) rfl (hb hby own_d10_6) (by decide) (by decide) ?_
    show Steps p.tables e below (s₁.setTop (mkF m 10 #[.val (.int (10 : Int32)), .val (.int (1 : Int32))] [(.int (10 : Int32))])) _
    exact retI X0 hx Bd.returns (hb hby own_d10_10) hr
  · show own_Q_max Z  h0 n0 _ s₁.heap _
    rw [e0]
    exact ⟨rfl, rfl, rfl⟩
theorem own_nulls {k : ClassId} : ∀ i, i < 10 → (newA k (.object "java/lang/Object") (10 : Int32)).slots[i]? = some ((fun _ => Value.null) i) := fun i hi => by
  have e : (10 : Int32).toNatClampNeg = 10 := by decide
  simp [newA, e, hi, defaultValue]
theorem own_d9_0 : decode jdk_38_method_6_code 0 = .ok (.aload_n 0, 1) := by decide +kernel
theorem own_d9_1 : decode jdk_38_method_6_code 1 = .ok (.getfield 9, 3) := by decide +kernel
theorem own_d9_4 : decode jdk_38_method_6_code 4 = .ok (.arraylength, 1) := by decide +kernel
theorem own_d9_5 : decode jdk_38_method_6_code 5 = .ok (.istore_n 2, 1) := by decide +kernel
theorem own_d9_6 : decode jdk_38_method_6_code 6 = .ok (.iload_n 2, 1) := by decide +kernel
theorem own_d9_7 : decode jdk_38_method_6_code 7 = .ok (.ifCond .gt 13, 3) := by decide +kernel
theorem own_d9_10 : decode jdk_38_method_6_code 10 = .ok (.aload_n 0, 1) := by decide +kernel
theorem own_d9_11 : decode jdk_38_method_6_code 11 = .ok (.getfield 9, 3) := by decide +kernel
theorem own_d9_14 : decode jdk_38_method_6_code 14 = .ok (.getstatic 39, 3) := by decide +kernel
theorem own_d9_17 : decode jdk_38_method_6_code 17 = .ok (.if_acmp .eq 28, 3) := by decide +kernel
theorem own_d9_45 : decode jdk_38_method_6_code 45 = .ok (.aload_n 0, 1) := by decide +kernel
theorem own_d9_46 : decode jdk_38_method_6_code 46 = .ok (.bipush 10, 2) := by decide +kernel
theorem own_d9_48 : decode jdk_38_method_6_code 48 = .ok (.iload_n 1, 1) := by decide +kernel
theorem own_d9_49 : decode jdk_38_method_6_code 49 = .ok (.invokestatic 79, 3) := by decide +kernel
theorem own_pd1 : parseMethodDescriptor "(II)I" = some ⟨[.int, .int], some .int⟩ := by decide +kernel
theorem own_d9_52 : decode jdk_38_method_6_code 52 = .ok (.anewarray 7, 3) := by decide +kernel
theorem own_d9_55 : decode jdk_38_method_6_code 55 = .ok (.dup_x1, 1) := by decide +kernel
theorem own_d9_56 : decode jdk_38_method_6_code 56 = .ok (.putfield 9, 3) := by decide +kernel
theorem own_d9_59 : decode jdk_38_method_6_code 59 = .ok (.areturn, 1) := by decide +kernel
def own_Q_growi (Z : State) (a : Addr) (D : Addr) (cD : Cell) (ich : Addr) (icc : Cell) (kA : Addr) (kS : Addr) (f0 : Addr) (f1 : Addr) (f2 : Addr) (f3 : Addr) (mc : Int32) (h0 : Heap) (n0 : Nat) (vv_ : Option Value) (hh_ : Heap) (LL_ : List Loc) : Prop := ∃ ea : Addr, vv_ = some (.ref ea) ∧ Fr n0 LL_ ∧ Old Z n0 hh_ ∧ Keep h0 hh_ [a] ∧ Exa Z hh_ a "java/util/ArrayList" ∧ Fld Z hh_ a "java/util/AbstractList" "modCount" "I" (.int mc) ∧ Fld Z hh_ a "java/util/ArrayList" "elementData" "[Ljava/lang/Object;" (.ref ea) ∧ Fld Z hh_ a "java/util/ArrayList" "size" "I" (.int (0 : Int32)) ∧ h0.size ≤ ea ∧ a ≠ ea ∧ ∃ c, Arr Z hh_ ea c (.object "java/lang/Object") ∧ Ovr Z c.cls "java/lang/Object" ∧ c.slots.size = 10 ∧ ∀ i, i < 10 → c.slots[i]? = some ((fun _ => Value.null) i)
theorem own_ef9 (m : MethodId) (x0 : Addr) (x1 : Int32) : entryFrame m #[(.ref x0), (.int x1)] 4 = mkF m 0 #[.val (.ref x0), .val (.int x1), .unset, .unset] [] := by first | (simp [entryFrame, mkF, argsToLocals, Value.category]; done) | rfl
set_option maxRecDepth 65536 in
set_option maxHeartbeats 40000000 in
theorem own_growi (l : Launch) (Z : State) (a0 : Array Value) (hw : ∀ d ∈ tables_1, d.before a0 Z = true) (ws : List Jvm.Cond) (a : Addr) (D : Addr) (cD : Cell) (ich : Addr) (icc : Cell) (kA : Addr) (kS : Addr) (f0 : Addr) (f1 : Addr) (f2 : Addr) (f3 : Addr) (mc : Int32) (h0 : Heap) (n0 : Nat) (O0 : Old Z n0 h0) (K : own_W Z D cD ich icc kA kS f0 f1 f2 f3) (pm_E_a : Exa Z h0 a "java/util/ArrayList") (pm_F_a_modCount : Fld Z h0 a "java/util/AbstractList" "modCount" "I" (.int mc)) (pm_F_a_elementData : Fld Z h0 a "java/util/ArrayList" "elementData" "[Ljava/lang/Object;" (.ref D)) (pm_F_a_size : Fld Z h0 a "java/util/ArrayList" "size" "I" (.int (0 : Int32))) (pm_ge_a : n0 ≤ a) :
    MetFree l (⟨"java/util/ArrayList", "grow", "(I)[Ljava/lang/Object;"⟩ : MethodName) (head1 (Jvm.Cond.code (⟨"java/util/ArrayList", "grow", "(I)[Ljava/lang/Object;"⟩ : MethodName) jdk_38_method_6_code 4 (some (.array (.object "java/lang/Object"))) :: ws) ({ frames := 1, cells := 1, slots := 10, locals := 14 } : Room)) (fun aa_ U_ => aa_ = #[(.ref a), (.int (1 : Int32))] ∧ Z.Warmed39 U_.vm ∧ U_.heap = h0) (fun _ _ _ _ _ => True) (fun _ U_ oo_ UU_ => ∃ vv_ LL_, oo_ = .returned vv_ ∧ own_Q_growi Z a D cD ich icc kA kS f0 f1 f2 f3 mc h0 n0 vv_ UU_.heap LL_ ∧ FrameEnd U_ oo_ UU_ LL_ ({ frames := 1, cells := 1, slots := 10, locals := 14 } : Room).cells ({ frames := 1, cells := 1, slots := 10, locals := 14 } : Room).slots) := by
  have KK := K
  obtain ⟨SD, AD0, zD, SH, SC, AC0, zC, vC, SA, SS, neAS, S0, S1, S2, S3⟩ := KK
  have AD := AD0.ext O0.2
  have ne_D_a : D ≠ a := O0.ne AD0.lt pm_ge_a
  refine MetFree.of_bodySF (plainFor_of_name own_pn2) hisR ?_
  intro p e s m args below meth c s₁ Bd hml0 hP hK
  obtain ⟨rfl, hZ, hh⟩ := hP
  have hx := Bd.exec
  have hby := Bd.bytes
  have hml : c.maxLocals = 4 := hml0
  have hown : s.vm.findClass "java/util/ArrayList" = some m.cls := findClass_of_methodNamed Bd.named
  have hnm := (name_of_methodNamed Bd.named Bd.method).1
  have X0 : Stand p l e ({ frames := 1, cells := 1, slots := 10, locals := 14 } : Room) s m #[(.ref a), (.int (1 : Int32))] below meth c s₁ [] 0 0 := Stand.of_body Bd
  have e0 : s₁.heap = h0 := by rw [← hh, Bd.state]; rfl
  have N0 := Fr.nil n0
  have pre0 : ∀ tt_, Steps p.tables e below (s₁.setTop (mkF m 0 #[.val (.ref a), .val (.int (1 : Int32)), .unset, .unset] [])) tt_ → Steps p.tables e below (s₁.setTop (entryFrame m #[(.ref a), (.int (1 : Int32))] 4)) tt_ := fun tt_ kk_ => castTop (own_ef9 m a (1 : Int32)) kk_
  obtain ⟨T1, X1, e1, st1⟩ := getF X0 hx hZ hown (host := "") (Or.inl (hw _ (List.mem_of_getElem? (i := 24) rfl))) Via.refl e0 pm_F_a_elementData (g := (mkF m 1 #[.val (.ref a), .val (.int (1 : Int32)), .unset, .unset] [(.ref a)])) rfl rfl (hb hby own_d9_1)
  obtain ⟨T2, X2, e2, st2⟩ := getF X1 hx hZ hown (host := "") (Or.inl (hw _ (List.mem_of_getElem? (i := 24) rfl))) Via.refl e1 pm_F_a_elementData (g := (mkF m 11 #[.val (.ref a), .val (.int (1 : Int32)), .val (.int (0 : Int32)), .unset] [(.ref a)])) rfl rfl (hb hby own_d9_11)
  obtain ⟨T3, X3, e3, st3⟩ := getS2 X2 hx hZ hown (host := "") (Or.inl (hw _ (List.mem_of_getElem? (i := 23) rfl))) Via.refl e2 (SD.ext O0.2) (g := (mkF m 14 #[.val (.ref a), .val (.int (1 : Int32)), .val (.int (0 : Int32)), .unset] [(.ref D)])) rfl (hb hby own_d9_14)
  obtain ⟨_, _, ⟨T4, L4, k4, n4⟩, -, X4, ⟨Lc4, hQ4, l4, y4, z4⟩, st4⟩ := Jvm.LawKit.callS X3 hx (y := (⟨"java/lang/Math", "max", "(II)I"⟩ : MethodName)) hown (mvT hZ (hw _ (List.mem_of_getElem? (i := 61) rfl))) (mvT hZ (hw _ (List.mem_of_getElem? (i := 62) rfl))) (mvT hZ (hw _ (List.mem_of_getElem? (i := 63) rfl))) (mvT hZ (hw _ (List.mem_of_getElem? (i := 64) rfl))) (by decide) (backOf (W := 1) (own_max l Z a0 hw []  h0 n0 O0  ) hZ (hw _ (List.mem_of_getElem? (i := 64) rfl)) (hw _ (List.mem_of_getElem? (i := 63) rfl)) (by decide) (by decide)) (g := (mkF m 49 #[.val (.ref a), .val (.int (1 : Int32)), .val (.int (0 : Int32)), .unset] [(.int (1 : Int32)), (.int (10 : Int32)), (.ref a)])) rfl (by rw [hml]; rfl) (argsL := [(.int (10 : Int32)), (.int (1 : Int32))]) (rest := [(.ref a)]) (lenOf own_pd1 rfl) rfl (by show 2 * 0 + _ ≤ _; exact Nat.le_of_eq rfl) (hb hby own_d9_49) (fun _ _ => ⟨rfl, e3, (by decide : 0 + 0 ≤ _), (by decide : 0 + 0 ≤ _)⟩)
  dsimp only [Pt.U, Pt.locs, Pt.cells, Pt.slots] at X4 l4 y4 z4 st4 hQ4
  subst l4 y4 z4
  obtain ⟨rfl, rfl, e4⟩ := hQ4
  try rw [List.append_nil] at X4
  obtain ⟨T5, h5, k5, X5, e5, E5, A5, V5, st5⟩ := newR X4 hx hZ hown (hw _ (List.mem_of_getElem? (i := 65) rfl)) (hw _ (List.mem_of_getElem? (i := 66) rfl)) e4 (g := (mkF m 52 #[.val (.ref a), .val (.int (1 : Int32)), .val (.int (0 : Int32)), .unset] [(.int (10 : Int32)), (.ref a)])) rfl (hb hby own_d9_52) rfl (by decide) (cap := 10) (by decide) (by decide) (by decide) (by decide)
  obtain ⟨ea, g5⟩ : ∃ z, z = h0.size := ⟨_, rfl⟩
  have g_ea : n0 ≤ ea := Nat.le_trans (Nat.le_trans (Nat.le_of_eq O0.1.symm) O0.2.1) (Nat.le_of_eq g5.symm)
  have sz_ea : h0.size ≤ ea := Nat.le_trans (Keep.refl h0 [a]).1 (Nat.le_of_eq g5.symm)
  have ne_a_ea : a ≠ ea := Nat.ne_of_lt (Nat.lt_of_lt_of_le pm_E_a.lt (Nat.le_of_eq g5.symm))
  have ne_D_ea : D ≠ ea := Nat.ne_of_lt (Nat.lt_of_lt_of_le AD.lt (Nat.le_of_eq g5.symm))
  rw [← g5] at A5 st5
  have f5_E_a := pm_E_a.ext E5
  have f5_F_a_modCount := pm_F_a_modCount.ext E5
  have f5_F_a_elementData := pm_F_a_elementData.ext E5
  have f5_F_a_size := pm_F_a_size.ext E5
  have f5_A_D := AD.ext E5
  have O5 := O0.ext E5
  have KC5 := (Keep.refl h0 [a]).ext E5
  obtain ⟨T6, h6, X6, e6, W6, st6⟩ := putF X5 hx hZ hown (host := "") (Or.inl (hw _ (List.mem_of_getElem? (i := 24) rfl))) Via.refl e5 f5_F_a_elementData f5_E_a (Or.inl (hw _ (List.mem_of_getElem? (i := 25) rfl))) (hw _ (List.mem_of_getElem? (i := 1) rfl)) (ty := (.array (.object "java/lang/Object"))) (by decide) rfl rfl (g := (mkF m 56 #[.val (.ref a), .val (.int (1 : Int32)), .val (.int (0 : Int32)), .unset] [(.ref ea), (.ref a), (.ref ea)])) rfl rfl (hb hby own_d9_56)
  have f6_E_a := f5_E_a.wr W6
  have f6_F_a_modCount := f5_F_a_modCount.other W6 (Or.inr (slot_ne (Or.inl (hw _ (List.mem_of_getElem? (i := 22) rfl))) (Or.inl (hw _ (List.mem_of_getElem? (i := 25) rfl))) (by decide) (t := .int) (t' := (.array (.object "java/lang/Object"))) (by decide) (by decide)))
  have f6_F_a_elementData := f5_F_a_elementData.same W6
  have f6_F_a_size := f5_F_a_size.other W6 (Or.inr (slot_ne (Or.inl (hw _ (List.mem_of_getElem? (i := 45) rfl))) (Or.inl (hw _ (List.mem_of_getElem? (i := 25) rfl))) (by decide) (t := .int) (t' := (.array (.object "java/lang/Object"))) (by decide) (by decide)))
  have f6_A_D := f5_A_D.other W6 ne_D_a
  have f6_A_ea := A5.other W6 (Ne.symm ne_a_ea)
  have O6 := O5.wr W6 pm_ge_a
  have KC6 := KC5.wr W6 (Or.inl (List.mem_of_getElem? (i := 0) rfl))
  have N6 := Fr.snoc X6 N0 pm_ge_a
  obtain ⟨fs, hr, hrun, hended, hW, hsame⟩ := X6.leave (v := some (.ref ea)) (fun h => by rw [Bd.returns] at h; cases h)
  refine ⟨_, _, pre0 _ ?_, hrun, hended, _, _, rfl, ?_, ⟨_, rfl⟩, hW, hsame.mono (by decide) (by decide)⟩
  · show Steps p.tables e below (s₁.setTop (mkF m 0 #[.val (.ref a), .val (.int (1 : Int32)), .unset, .unset] [])) _
    refine XS.aloadN X0.here hx rfl (hb hby own_d9_0) rfl rfl ?_
    show Steps p.tables e below (s₁.setTop (mkF m 1 #[.val (.ref a), .val (.int (1 : Int32)), .unset, .unset] [(.ref a)])) _
    refine st1 _ ?_
    show Steps p.tables e below (T1.setTop (mkF m 4 #[.val (.ref a), .val (.int (1 : Int32)), .unset, .unset] [(.ref D)])) _
    refine X1.arraylength hx (by rw [e1]; exact AD.1) (State.isArrayOf_alike hZ.alike AD.2.1) (g := (mkF m 4 #[.val (.ref a), .val (.int (1 : Int32)), .unset, .unset] [(.ref D)])) rfl rfl (hb hby own_d9_4) _ ?_
    rw [len_of (z := (0 : Int32)) (zD.trans (by decide)) (by decide)]
    show Steps p.tables e below (T1.setTop (mkF m 5 #[.val (.ref a), .val (.int (1 : Int32)), .unset, .unset] [(.int (0 : Int32))])) _
    refine XS.istoreN X1.here hx rfl (hb hby own_d9_5) rfl (l' := #[.val (.ref a), .val (.int (1 : Int32)), .val (.int (0 : Int32)), .unset]) rfl ?_
    show Steps p.tables e below (T1.setTop (mkF m 6 #[.val (.ref a), .val (.int (1 : Int32)), .val (.int (0 : Int32)), .unset] [])) _
    refine XS.iloadN X1.here hx rfl (hb hby own_d9_6) rfl ?_
    show Steps p.tables e below (T1.setTop (mkF m 7 #[.val (.ref a), .val (.int (1 : Int32)), .val (.int (0 : Int32)), .unset] [(.int (0 : Int32))])) _
    refine XS.ifNo X1.here hx rfl (hb hby own_d9_7) rfl ((if0 _ _).trans (flt (by decide : ¬ ((0 : Int32) < (0 : Int32)))).2.2.1) ?_
    show Steps p.tables e below (T1.setTop (mkF m 10 #[.val (.ref a), .val (.int (1 : Int32)), .val (.int (0 : Int32)), .unset] [])) _
    refine XS.aloadN X1.here hx rfl (hb hby own_d9_10) rfl rfl ?_
    show Steps p.tables e below (T1.setTop (mkF m 11 #[.val (.ref a), .val (.int (1 : Int32)), .val (.int (0 : Int32)), .unset] [(.ref a)])) _
    refine st2 _ ?_
    show Steps p.tables e below (T2.setTop (mkF m 14 #[.val (.ref a), .val (.int (1 : Int32)), .val (.int (0 : Int32)), .unset] [(.ref D)])) _
    refine st3 _ ?_
    show Steps p.tables e below (T3.setTop (mkF m 17 #[.val (.ref a), .val (.int (1 : Int32)), .val (.int (0 : Int32)), .unset] [(.ref D), (.ref D)])) _
    refine Jvm.RoadKit.acmp (g := (mkF m 17 #[.val (.ref a), .val (.int (1 : Int32)), .val (.int (0 : Int32)), .unset] [(.ref D), (.ref D)])) X3 hx rfl rfl rfl (pc0 := 17) (pc' := 45) (same := true) rfl (hb hby own_d9_17) rfl (decide_eq_true rfl) (by decide) (by decide) ?_
    show Steps p.tables e below (T3.setTop (mkF m 45 #[.val (.ref a), .val (.int (1 : Int32)), .val (.int (0 : Int32)), .unset] [])) _
    refine XS.aloadN X3.here hx rfl (hb hby own_d9_45) rfl rfl ?_
    show Steps p.tables e below (T3.setTop (mkF m 46 #[.val (.ref a), .val (.int (1 : Int32)), .val (.int (0 : Int32)), .unset] [(.ref a)])) _
    refine XS.bipush X3.here hx rfl (hb hby own_d9_46) ?_
    show Steps p.tables e below (T3.setTop (mkF m 48 #[.val (.ref a), .val (.int (1 : Int32)), .val (.int (0 : Int32)), .unset] [(.int (10 : Int32)), (.ref a)])) _
    refine XS.iloadN X3.here hx rfl (hb hby own_d9_48) rfl ?_
    show Steps p.tables e below (T3.setTop (mkF m 49 #[.val (.ref a), .val (.int (1 : Int32)), .val (.int (0 : Int32)), .unset] [(.int (1 : Int32)), (.int (10 : Int32)), (.ref a)])) _
    refine st4 _ ?_
    show Steps p.tables e below (T4.setTop (mkF m 52 #[.val (.ref a), .val (.int (1 : Int32)), .val (.int (0 : Int32)), .unset] [(.int (10 : Int32)), (.ref a)])) _
    refine st5 _ ?_
    show Steps p.tables e below (T5.setTop (mkF m 55 #[.val (.ref a), .val (.int (1 : Int32)), .val (.int (0 : Int32)), .unset] [(.ref ea), (.ref a)])) _
    refine XS.dupX1 X5.here hx rfl (hb hby own_d9_55) rfl rfl rfl ?_
    show Steps p.tables e below (T5.setTop (mkF m 56 #[.val (.ref a), .val (.int (1 : Int32)), .val (.int (0 : Int32)), .unset] [(.ref ea), (.ref a), (.ref ea)])) _
    refine st6 _ ?_
    show Steps p.tables e below (T6.setTop (mkF m 59 #[.val (.ref a), .val (.int (1 : Int32)), .val (.int (0 : Int32)), .unset] [(.ref ea)])) _
    jvm_step X6.here [X6.here.top, hx, (hb hby own_d9_59), X6.method', Bd.returns, Value.isRef, FieldType.isReference]
    first | (intro acts; rw [hr _ acts rfl rfl rfl]) | rw [hr _ _ rfl rfl rfl]
    exact Steps.refl _
  · show own_Q_growi Z a D cD ich icc kA kS f0 f1 f2 f3 mc h0 n0 _ T6.heap _
    rw [e6]
    exact ⟨ea, rfl, N6, O6, KC6, f6_E_a, f6_F_a_modCount, f6_F_a_elementData, f6_F_a_size, sz_ea, ne_a_ea, ⟨_, f6_A_ea, V5, (sz_new _ _ _).trans (by decide), own_nulls⟩⟩
theorem own_d8_0 : decode jdk_38_method_7_code 0 = .ok (.aload_n 0, 1) := by decide +kernel
theorem own_d8_1 : decode jdk_38_method_7_code 1 = .ok (.aload_n 0, 1) := by decide +kernel
theorem own_d8_2 : decode jdk_38_method_7_code 2 = .ok (.getfield 48, 3) := by decide +kernel
theorem own_d8_5 : decode jdk_38_method_7_code 5 = .ok (.iconst 1, 1) := by decide +kernel
theorem own_d8_6 : decode jdk_38_method_7_code 6 = .ok (.iadd, 1) := by decide +kernel
theorem own_d8_7 : decode jdk_38_method_7_code 7 = .ok (.invokevirtual 69, 3) := by decide +kernel
theorem own_pd2 : parseMethodDescriptor "(I)[Ljava/lang/Object;" = some ⟨[.int], some (.array (.object "java/lang/Object"))⟩ := by decide +kernel
theorem own_d8_10 : decode jdk_38_method_7_code 10 = .ok (.areturn, 1) := by decide +kernel
def own_Q_grow (Z : State) (a : Addr) (D : Addr) (cD : Cell) (ich : Addr) (icc : Cell) (kA : Addr) (kS : Addr) (f0 : Addr) (f1 : Addr) (f2 : Addr) (f3 : Addr) (mc : Int32) (h0 : Heap) (n0 : Nat) (vv_ : Option Value) (hh_ : Heap) (LL_ : List Loc) : Prop := ∃ ea : Addr, vv_ = some (.ref ea) ∧ Fr n0 LL_ ∧ Old Z n0 hh_ ∧ Keep h0 hh_ [a] ∧ Exa Z hh_ a "java/util/ArrayList" ∧ Fld Z hh_ a "java/util/AbstractList" "modCount" "I" (.int mc) ∧ Fld Z hh_ a "java/util/ArrayList" "elementData" "[Ljava/lang/Object;" (.ref ea) ∧ Fld Z hh_ a "java/util/ArrayList" "size" "I" (.int (0 : Int32)) ∧ h0.size ≤ ea ∧ a ≠ ea ∧ ∃ c, Arr Z hh_ ea c (.object "java/lang/Object") ∧ Ovr Z c.cls "java/lang/Object" ∧ c.slots.size = 10 ∧ ∀ i, i < 10 → c.slots[i]? = some ((fun _ => Value.null) i)
theorem own_ef8 (m : MethodId) (x0 : Addr) : entryFrame m #[(.ref x0)] 1 = mkF m 0 #[.val (.ref x0)] [] := by first | (simp [entryFrame, mkF, argsToLocals, Value.category]; done) | rfl
set_option maxRecDepth 65536 in
set_option maxHeartbeats 40000000 in
theorem own_grow (l : Launch) (Z : State) (a0 : Array Value) (hw : ∀ d ∈ tables_1, d.before a0 Z = true) (ws : List Jvm.Cond) (a : Addr) (D : Addr) (cD : Cell) (ich : Addr) (icc : Cell) (kA : Addr) (kS : Addr) (f0 : Addr) (f1 : Addr) (f2 : Addr) (f3 : Addr) (mc : Int32) (h0 : Heap) (n0 : Nat) (O0 : Old Z n0 h0) (K : own_W Z D cD ich icc kA kS f0 f1 f2 f3) (pm_E_a : Exa Z h0 a "java/util/ArrayList") (pm_F_a_modCount : Fld Z h0 a "java/util/AbstractList" "modCount" "I" (.int mc)) (pm_F_a_elementData : Fld Z h0 a "java/util/ArrayList" "elementData" "[Ljava/lang/Object;" (.ref D)) (pm_F_a_size : Fld Z h0 a "java/util/ArrayList" "size" "I" (.int (0 : Int32))) (pm_ge_a : n0 ≤ a) :
    MetFree l (⟨"java/util/ArrayList", "grow", "()[Ljava/lang/Object;"⟩ : MethodName) (head1 (Jvm.Cond.code (⟨"java/util/ArrayList", "grow", "()[Ljava/lang/Object;"⟩ : MethodName) jdk_38_method_7_code 1 (some (.array (.object "java/lang/Object"))) :: ws) ({ frames := 2, cells := 1, slots := 10, locals := 29 } : Room)) (fun aa_ U_ => aa_ = #[(.ref a)] ∧ Z.Warmed39 U_.vm ∧ U_.heap = h0) (fun _ _ _ _ _ => True) (fun _ U_ oo_ UU_ => ∃ vv_ LL_, oo_ = .returned vv_ ∧ own_Q_grow Z a D cD ich icc kA kS f0 f1 f2 f3 mc h0 n0 vv_ UU_.heap LL_ ∧ FrameEnd U_ oo_ UU_ LL_ ({ frames := 2, cells := 1, slots := 10, locals := 29 } : Room).cells ({ frames := 2, cells := 1, slots := 10, locals := 29 } : Room).slots) := by
  have KK := K
  obtain ⟨SD, AD0, zD, SH, SC, AC0, zC, vC, SA, SS, neAS, S0, S1, S2, S3⟩ := KK
  have AD := AD0.ext O0.2
  have ne_D_a : D ≠ a := O0.ne AD0.lt pm_ge_a
  refine MetFree.of_bodySF (plainFor_of_name own_pn2) hisR ?_
  intro p e s m args below meth c s₁ Bd hml0 hP hK
  obtain ⟨rfl, hZ, hh⟩ := hP
  have hx := Bd.exec
  have hby := Bd.bytes
  have hml : c.maxLocals = 1 := hml0
  have hown : s.vm.findClass "java/util/ArrayList" = some m.cls := findClass_of_methodNamed Bd.named
  have hnm := (name_of_methodNamed Bd.named Bd.method).1
  have X0 : Stand p l e ({ frames := 2, cells := 1, slots := 10, locals := 29 } : Room) s m #[(.ref a)] below meth c s₁ [] 0 0 := Stand.of_body Bd
  have e0 : s₁.heap = h0 := by rw [← hh, Bd.state]; rfl
  have N0 := Fr.nil n0
  have pre0 : ∀ tt_, Steps p.tables e below (s₁.setTop (mkF m 0 #[.val (.ref a)] [])) tt_ → Steps p.tables e below (s₁.setTop (entryFrame m #[(.ref a)] 1)) tt_ := fun tt_ kk_ => castTop (own_ef8 m a) kk_
  obtain ⟨T1, X1, e1, st1⟩ := getF X0 hx hZ hown (host := "") (Or.inl (hw _ (List.mem_of_getElem? (i := 44) rfl))) Via.refl e0 pm_F_a_size (g := (mkF m 2 #[.val (.ref a)] [(.ref a), (.ref a)])) rfl rfl (hb hby own_d8_2)
  obtain ⟨cq2, q2, q2'⟩ := pm_E_a.cell
  obtain ⟨_, _, ⟨T2, L2, k2, n2⟩, -, X2, ⟨Lc2, hQ2, l2, y2, z2⟩, st2⟩ := X1.privateBack hx (y := (⟨"java/util/ArrayList", "grow", "(I)[Ljava/lang/Object;"⟩ : MethodName)) hown (mvT hZ (hw _ (List.mem_of_getElem? (i := 56) rfl))) (mvT hZ (hw _ (List.mem_of_getElem? (i := 57) rfl))) (mvT hZ (hw _ (List.mem_of_getElem? (i := 59) rfl))) (Cond.privateMethod_at (mvP hZ (hw _ (List.mem_of_getElem? (i := 58) rfl)) (args := #[]))) (mvT hZ (hw _ (List.mem_of_getElem? (i := 60) rfl))) (by decide) (backOf (W := 0) (own_growi l Z a0 hw [] a D cD ich icc kA kS f0 f1 f2 f3 mc h0 n0 O0 K pm_E_a pm_F_a_modCount pm_F_a_elementData pm_F_a_size pm_ge_a) hZ (hw _ (List.mem_of_getElem? (i := 60) rfl)) (hw _ (List.mem_of_getElem? (i := 2) rfl)) (by decide) (by decide)) (g := (mkF m 7 #[.val (.ref a)] [(.int (1 : Int32)), (.ref a)])) rfl (by rw [hml]; rfl) (Steps.refl _) (a := a) (by rw [e1]; exact q2) q2' (argsL := [(.int (1 : Int32))]) (rest := []) (lenOf own_pd2 rfl) rfl (by show 2 * 0 + _ ≤ _; exact Nat.le_of_eq rfl) (hb hby own_d8_7) (fun _ _ => ⟨rfl, e1, (by decide : 0 + 1 ≤ _), (by decide : 0 + 10 ≤ _)⟩)
  dsimp only [Pt.U, Pt.locs, Pt.cells, Pt.slots] at X2 l2 y2 z2 st2 hQ2
  subst l2 y2 z2
  obtain ⟨ea, rfl, N2q, O2, K2, p2_E_a, p2_F_a_modCount, p2_F_a_elementData, p2_F_a_size, p2_fresh_ea, p2_ne_a_ea, p2_arr⟩ := hQ2
  have N2 := Fr.app N0 N2q
  have ne_a_ea : a ≠ ea := Nat.ne_of_lt (Nat.lt_of_lt_of_le pm_E_a.lt p2_fresh_ea)
  have ne_D_ea : D ≠ ea := Nat.ne_of_lt (Nat.lt_of_lt_of_le AD.lt p2_fresh_ea)
  have g_ea : n0 ≤ ea := Nat.le_trans (Nat.le_trans (Nat.le_of_eq O0.1.symm) O0.2.1) p2_fresh_ea
  have sz_ea : h0.size ≤ ea := Nat.le_trans (Keep.refl h0 [a]).1 p2_fresh_ea
  have f2_A_D := own_arrKeep AD K2 (ninS ne_D_a nin0)
  have KC2 := (Keep.refl h0 [a]).trans K2 (allS (Or.inl (List.mem_of_getElem? (i := 0) rfl)) all0)
  obtain ⟨fs, hr, hrun, hended, hW, hsame⟩ := X2.leave (v := some (.ref ea)) (fun h => by rw [Bd.returns] at h; cases h)
  refine ⟨_, _, pre0 _ ?_, hrun, hended, _, _, rfl, ?_, ⟨_, rfl⟩, hW, hsame.mono (by decide) (by decide)⟩
  · show Steps p.tables e below (s₁.setTop (mkF m 0 #[.val (.ref a)] [])) _
    refine XS.aloadN X0.here hx rfl (hb hby own_d8_0) rfl rfl ?_
    show Steps p.tables e below (s₁.setTop (mkF m 1 #[.val (.ref a)] [(.ref a)])) _
    refine XS.aloadN X0.here hx rfl (hb hby own_d8_1) rfl rfl ?_
    show Steps p.tables e below (s₁.setTop (mkF m 2 #[.val (.ref a)] [(.ref a), (.ref a)])) _
    refine st1 _ ?_
    show Steps p.tables e below (T1.setTop (mkF m 5 #[.val (.ref a)] [(.int (0 : Int32)), (.ref a)])) _
    refine XS.iconst X1.here hx rfl (hb hby own_d8_5) ?_
    show Steps p.tables e below (T1.setTop (mkF m 6 #[.val (.ref a)] [(.int (1 : Int32)), (.int (0 : Int32)), (.ref a)])) _
    refine XS.iadd X1.here hx rfl (hb hby own_d8_6) rfl ?_
    show Steps p.tables e below (T1.setTop (mkF m 7 #[.val (.ref a)] [(.int ((0 : Int32) + (1 : Int32))), (.ref a)])) _
    rw [show ((0 : Int32) + (1 : Int32)) = (1 : Int32) from by decide]
    show Steps p.tables e below (T1.setTop (mkF m 7 #[.val (.ref a)] [(.int (1 : Int32)), (.ref a)])) _
    refine st2.trans ?_
    show Steps p.tables e below (T2.setTop (mkF m 10 #[.val (.ref a)] [(.ref ea)])) _
    jvm_step X2.here [X2.here.top, hx, (hb hby own_d8_10), X2.method', Bd.returns, Value.isRef, FieldType.isReference]
    first | (intro acts; rw [hr _ acts rfl rfl rfl]) | rw [hr _ _ rfl rfl rfl]
    exact Steps.refl _
  · show own_Q_grow Z a D cD ich icc kA kS f0 f1 f2 f3 mc h0 n0 _ T2.heap _
    exact ⟨ea, rfl, N2, O2, KC2, p2_E_a, p2_F_a_modCount, p2_F_a_elementData, p2_F_a_size, sz_ea, p2_ne_a_ea, p2_arr⟩
theorem own_d7_0 : decode jdk_38_method_24_code 0 = .ok (.iload_n 3, 1) := by decide +kernel
theorem own_d7_1 : decode jdk_38_method_24_code 1 = .ok (.aload_n 2, 1) := by decide +kernel
theorem own_d7_2 : decode jdk_38_method_24_code 2 = .ok (.arraylength, 1) := by decide +kernel
theorem own_d7_3 : decode jdk_38_method_24_code 3 = .ok (.if_icmp .ne 8, 3) := by decide +kernel
theorem own_d7_6 : decode jdk_38_method_24_code 6 = .ok (.aload_n 0, 1) := by decide +kernel
theorem own_d7_7 : decode jdk_38_method_24_code 7 = .ok (.invokevirtual 129, 3) := by decide +kernel
theorem own_pd3 : parseMethodDescriptor "()[Ljava/lang/Object;" = some ⟨[], some (.array (.object "java/lang/Object"))⟩ := by decide +kernel
theorem own_d7_10 : decode jdk_38_method_24_code 10 = .ok (.astore_n 2, 1) := by decide +kernel
theorem own_d7_11 : decode jdk_38_method_24_code 11 = .ok (.aload_n 2, 1) := by decide +kernel
theorem own_d7_12 : decode jdk_38_method_24_code 12 = .ok (.iload_n 3, 1) := by decide +kernel
theorem own_d7_13 : decode jdk_38_method_24_code 13 = .ok (.aload_n 1, 1) := by decide +kernel
theorem own_d7_14 : decode jdk_38_method_24_code 14 = .ok (.aastore, 1) := by decide +kernel
theorem own_d7_15 : decode jdk_38_method_24_code 15 = .ok (.aload_n 0, 1) := by decide +kernel
theorem own_d7_16 : decode jdk_38_method_24_code 16 = .ok (.iload_n 3, 1) := by decide +kernel
theorem own_d7_17 : decode jdk_38_method_24_code 17 = .ok (.iconst 1, 1) := by decide +kernel
theorem own_d7_18 : decode jdk_38_method_24_code 18 = .ok (.iadd, 1) := by decide +kernel
theorem own_d7_19 : decode jdk_38_method_24_code 19 = .ok (.putfield 48, 3) := by decide +kernel
theorem own_d7_22 : decode jdk_38_method_24_code 22 = .ok (.return_, 1) := by decide +kernel
def own_Q_addp (Z : State) (a : Addr) (x : Addr) (D : Addr) (cD : Cell) (ich : Addr) (icc : Cell) (kA : Addr) (kS : Addr) (f0 : Addr) (f1 : Addr) (f2 : Addr) (f3 : Addr) (mc : Int32) (h0 : Heap) (n0 : Nat) (vv_ : Option Value) (hh_ : Heap) (LL_ : List Loc) : Prop := ∃ ea : Addr, vv_ = none ∧ Fr n0 LL_ ∧ Old Z n0 hh_ ∧ Keep h0 hh_ [a] ∧ own_AL Z hh_ a ea (1 : Int32) (own_uv (fun _ => Value.null) 0 (.ref x)) ∧ h0.size ≤ ea
theorem own_ef7 (m : MethodId) (x0 : Addr) (x1 : Addr) (x2 : Addr) (x3 : Int32) : entryFrame m #[(.ref x0), (.ref x1), (.ref x2), (.int x3)] 4 = mkF m 0 #[.val (.ref x0), .val (.ref x1), .val (.ref x2), .val (.int x3)] [] := by first | (simp [entryFrame, mkF, argsToLocals, Value.category]; done) | rfl
set_option maxRecDepth 65536 in
set_option maxHeartbeats 40000000 in
theorem own_addp (l : Launch) (Z : State) (a0 : Array Value) (hw : ∀ d ∈ tables_1, d.before a0 Z = true) (ws : List Jvm.Cond) (a : Addr) (x : Addr) (D : Addr) (cD : Cell) (ich : Addr) (icc : Cell) (kA : Addr) (kS : Addr) (f0 : Addr) (f1 : Addr) (f2 : Addr) (f3 : Addr) (mc : Int32) (h0 : Heap) (n0 : Nat) (O0 : Old Z n0 h0) (K : own_W Z D cD ich icc kA kS f0 f1 f2 f3) (pm_E_a : Exa Z h0 a "java/util/ArrayList") (pm_F_a_modCount : Fld Z h0 a "java/util/AbstractList" "modCount" "I" (.int mc)) (pm_F_a_elementData : Fld Z h0 a "java/util/ArrayList" "elementData" "[Ljava/lang/Object;" (.ref D)) (pm_F_a_size : Fld Z h0 a "java/util/ArrayList" "size" "I" (.int (0 : Int32))) (pm_ge_a : n0 ≤ a) (IX : Ins Z h0 x "java/lang/Object" true) :
    MetFree l (⟨"java/util/ArrayList", "add", "(Ljava/lang/Object;[Ljava/lang/Object;I)V"⟩ : MethodName) (head1 (Jvm.Cond.code (⟨"java/util/ArrayList", "add", "(Ljava/lang/Object;[Ljava/lang/Object;I)V"⟩ : MethodName) jdk_38_method_24_code 4 none :: ws) ({ frames := 3, cells := 1, slots := 10, locals := 41 } : Room)) (fun aa_ U_ => aa_ = #[(.ref a), (.ref x), (.ref D), (.int (0 : Int32))] ∧ Z.Warmed39 U_.vm ∧ U_.heap = h0) (fun _ _ _ _ _ => True) (fun _ U_ oo_ UU_ => ∃ vv_ LL_, oo_ = .returned vv_ ∧ own_Q_addp Z a x D cD ich icc kA kS f0 f1 f2 f3 mc h0 n0 vv_ UU_.heap LL_ ∧ FrameEnd U_ oo_ UU_ LL_ ({ frames := 3, cells := 1, slots := 10, locals := 41 } : Room).cells ({ frames := 3, cells := 1, slots := 10, locals := 41 } : Room).slots) := by
  have KK := K
  obtain ⟨SD, AD0, zD, SH, SC, AC0, zC, vC, SA, SS, neAS, S0, S1, S2, S3⟩ := KK
  have AD := AD0.ext O0.2
  have ne_D_a : D ≠ a := O0.ne AD0.lt pm_ge_a
  refine MetFree.of_bodySF (plainFor_of_name own_pn2) hisR ?_
  intro p e s m args below meth c s₁ Bd hml0 hP hK
  obtain ⟨rfl, hZ, hh⟩ := hP
  have hx := Bd.exec
  have hby := Bd.bytes
  have hml : c.maxLocals = 4 := hml0
  have hown : s.vm.findClass "java/util/ArrayList" = some m.cls := findClass_of_methodNamed Bd.named
  have hnm := (name_of_methodNamed Bd.named Bd.method).1
  have X0 : Stand p l e ({ frames := 3, cells := 1, slots := 10, locals := 41 } : Room) s m #[(.ref a), (.ref x), (.ref D), (.int (0 : Int32))] below meth c s₁ [] 0 0 := Stand.of_body Bd
  have e0 : s₁.heap = h0 := by rw [← hh, Bd.state]; rfl
  have N0 := Fr.nil n0
  have pre0 : ∀ tt_, Steps p.tables e below (s₁.setTop (mkF m 0 #[.val (.ref a), .val (.ref x), .val (.ref D), .val (.int (0 : Int32))] [])) tt_ → Steps p.tables e below (s₁.setTop (entryFrame m #[(.ref a), (.ref x), (.ref D), (.int (0 : Int32))] 4)) tt_ := fun tt_ kk_ => castTop (own_ef7 m a x D (0 : Int32)) kk_
  obtain ⟨cq1, q1, q1'⟩ := pm_E_a.cell
  obtain ⟨_, _, ⟨T1, L1, k1, n1⟩, -, X1, ⟨Lc1, hQ1, l1, y1, z1⟩, st1⟩ := X0.privateBack hx (y := (⟨"java/util/ArrayList", "grow", "()[Ljava/lang/Object;"⟩ : MethodName)) hown (mvT hZ (hw _ (List.mem_of_getElem? (i := 51) rfl))) (mvT hZ (hw _ (List.mem_of_getElem? (i := 52) rfl))) (mvT hZ (hw _ (List.mem_of_getElem? (i := 54) rfl))) (Cond.privateMethod_at (mvP hZ (hw _ (List.mem_of_getElem? (i := 53) rfl)) (args := #[]))) (mvT hZ (hw _ (List.mem_of_getElem? (i := 55) rfl))) (by decide) (backOf (W := 0) (own_grow l Z a0 hw [] a D cD ich icc kA kS f0 f1 f2 f3 mc h0 n0 O0 K pm_E_a pm_F_a_modCount pm_F_a_elementData pm_F_a_size pm_ge_a) hZ (hw _ (List.mem_of_getElem? (i := 55) rfl)) (hw _ (List.mem_of_getElem? (i := 2) rfl)) (by decide) (by decide)) (g := (mkF m 7 #[.val (.ref a), .val (.ref x), .val (.ref D), .val (.int (0 : Int32))] [(.ref a)])) rfl (by rw [hml]; rfl) (Steps.refl _) (a := a) (by rw [e0]; exact q1) q1' (argsL := []) (rest := []) (lenOf own_pd3 rfl) rfl (by show 2 * 0 + _ ≤ _; exact Nat.le_of_eq rfl) (hb hby own_d7_7) (fun _ _ => ⟨rfl, e0, (by decide : 0 + 1 ≤ _), (by decide : 0 + 10 ≤ _)⟩)
  dsimp only [Pt.U, Pt.locs, Pt.cells, Pt.slots] at X1 l1 y1 z1 st1 hQ1
  subst l1 y1 z1
  obtain ⟨ea, rfl, N1q, O1, K1, p1_E_a, p1_F_a_modCount, p1_F_a_elementData, p1_F_a_size, p1_fresh_ea, p1_ne_a_ea, p1_arr⟩ := hQ1
  have N1 := Fr.app N0 N1q
  have ne_a_ea : a ≠ ea := Nat.ne_of_lt (Nat.lt_of_lt_of_le pm_E_a.lt p1_fresh_ea)
  have ne_D_ea : D ≠ ea := Nat.ne_of_lt (Nat.lt_of_lt_of_le AD.lt p1_fresh_ea)
  have g_ea : n0 ≤ ea := Nat.le_trans (Nat.le_trans (Nat.le_of_eq O0.1.symm) O0.2.1) p1_fresh_ea
  have sz_ea : h0.size ≤ ea := Nat.le_trans (Keep.refl h0 [a]).1 p1_fresh_ea
  have f1_A_D := own_arrKeep AD K1 (ninS ne_D_a nin0)
  have f1_I_x := own_insKeep IX K1
  have KC1 := (Keep.refl h0 [a]).trans K1 (allS (Or.inl (List.mem_of_getElem? (i := 0) rfl)) all0)
  obtain ⟨cE, aE, oE, zE, vE⟩ := p1_arr
  have hin2 : ¬ ((0 : Int32) < 0 ∨ cE.slots.size ≤ (0 : Int32).toNatClampNeg) := by rw [zE]; decide
  have sto2 := Sto.of aE oE f1_I_x
  obtain ⟨T2, h2, X2, e2, W2, st2⟩ := stR X1 hx hZ rfl aE (j := (0 : Int32)) hin2 rfl sto2 (g := (mkF m 14 #[.val (.ref a), .val (.ref x), .val (.ref ea), .val (.int (0 : Int32))] [(.ref x), (.int (0 : Int32)), (.ref ea)])) rfl rfl (hb hby own_d7_14)
  have f2_A_D := f1_A_D.other W2 ne_D_ea
  have f2_I_x := f1_I_x.wr W2
  have f2_E_a := p1_E_a.wr W2
  have f2_F_a_modCount := p1_F_a_modCount.other W2 (Or.inl p1_ne_a_ea)
  have f2_F_a_elementData := p1_F_a_elementData.other W2 (Or.inl p1_ne_a_ea)
  have f2_F_a_size := p1_F_a_size.other W2 (Or.inl p1_ne_a_ea)
  have f2_A_ea := aE.same W2
  have O2 := O1.wr W2 g_ea
  have KC2 := KC1.wr W2 (Or.inr sz_ea)
  have N2 := Fr.snoc X2 N1 g_ea
  have cz2 := (sz_set cE (0 : Int32).toNatClampNeg (.ref x)).trans zE
  have cv2 := own_setV (i := (0 : Int32).toNatClampNeg) (x := (.ref x)) zE (by decide) vE
  obtain ⟨T3, h3, X3, e3, W3, st3⟩ := putF X2 hx hZ hown (host := "") (Or.inl (hw _ (List.mem_of_getElem? (i := 44) rfl))) Via.refl e2 f2_F_a_size f2_E_a (Or.inl (hw _ (List.mem_of_getElem? (i := 45) rfl))) (hw _ (List.mem_of_getElem? (i := 1) rfl)) (ty := .int) (by decide) rfl rfl (g := (mkF m 19 #[.val (.ref a), .val (.ref x), .val (.ref ea), .val (.int (0 : Int32))] [(.int (1 : Int32)), (.ref a)])) rfl rfl (hb hby own_d7_19)
  have f3_A_D := f2_A_D.other W3 ne_D_a
  have f3_I_x := f2_I_x.wr W3
  have f3_E_a := f2_E_a.wr W3
  have f3_F_a_modCount := f2_F_a_modCount.other W3 (Or.inr (slot_ne (Or.inl (hw _ (List.mem_of_getElem? (i := 22) rfl))) (Or.inl (hw _ (List.mem_of_getElem? (i := 45) rfl))) (by decide) (t := .int) (t' := .int) (by decide) (by decide)))
  have f3_F_a_elementData := f2_F_a_elementData.other W3 (Or.inr (slot_ne (Or.inl (hw _ (List.mem_of_getElem? (i := 25) rfl))) (Or.inl (hw _ (List.mem_of_getElem? (i := 45) rfl))) (by decide) (t := (.array (.object "java/lang/Object"))) (t' := .int) (by decide) (by decide)))
  have f3_F_a_size := f2_F_a_size.same W3
  have f3_A_ea := f2_A_ea.other W3 (Ne.symm p1_ne_a_ea)
  have O3 := O2.wr W3 pm_ge_a
  have KC3 := KC2.wr W3 (Or.inl (List.mem_of_getElem? (i := 0) rfl))
  have N3 := Fr.snoc X3 N2 pm_ge_a
  obtain ⟨fs, hr, hrun, hended, hW, hsame⟩ := X3.leave (v := none) (fun _ => rfl)
  refine ⟨_, _, pre0 _ ?_, hrun, hended, _, _, rfl, ?_, ⟨_, rfl⟩, hW, hsame.mono (by decide) (by decide)⟩
  · show Steps p.tables e below (s₁.setTop (mkF m 0 #[.val (.ref a), .val (.ref x), .val (.ref D), .val (.int (0 : Int32))] [])) _
    refine XS.iloadN X0.here hx rfl (hb hby own_d7_0) rfl ?_
    show Steps p.tables e below (s₁.setTop (mkF m 1 #[.val (.ref a), .val (.ref x), .val (.ref D), .val (.int (0 : Int32))] [(.int (0 : Int32))])) _
    refine XS.aloadN X0.here hx rfl (hb hby own_d7_1) rfl rfl ?_
    show Steps p.tables e below (s₁.setTop (mkF m 2 #[.val (.ref a), .val (.ref x), .val (.ref D), .val (.int (0 : Int32))] [(.ref D), (.int (0 : Int32))])) _
    refine X0.arraylength hx (by rw [e0]; exact AD.1) (State.isArrayOf_alike hZ.alike AD.2.1) (g := (mkF m 2 #[.val (.ref a), .val (.ref x), .val (.ref D), .val (.int (0 : Int32))] [(.ref D), (.int (0 : Int32))])) rfl rfl (hb hby own_d7_2) _ ?_
    rw [len_of (z := (0 : Int32)) (zD.trans (by decide)) (by decide)]
    show Steps p.tables e below (s₁.setTop (mkF m 3 #[.val (.ref a), .val (.ref x), .val (.ref D), .val (.int (0 : Int32))] [(.int (0 : Int32)), (.int (0 : Int32))])) _
    refine XS.icmpNo X0.here hx rfl (hb hby own_d7_3) rfl (teq (rfl : (0 : Int32) = (0 : Int32))).2 ?_
    show Steps p.tables e below (s₁.setTop (mkF m 6 #[.val (.ref a), .val (.ref x), .val (.ref D), .val (.int (0 : Int32))] [])) _
    refine XS.aloadN X0.here hx rfl (hb hby own_d7_6) rfl rfl ?_
    show Steps p.tables e below (s₁.setTop (mkF m 7 #[.val (.ref a), .val (.ref x), .val (.ref D), .val (.int (0 : Int32))] [(.ref a)])) _
    refine st1.trans ?_
    show Steps p.tables e below (T1.setTop (mkF m 10 #[.val (.ref a), .val (.ref x), .val (.ref D), .val (.int (0 : Int32))] [(.ref ea)])) _
    refine XS.astoreN X1.here hx rfl (hb hby own_d7_10) rfl rfl (l' := #[.val (.ref a), .val (.ref x), .val (.ref ea), .val (.int (0 : Int32))]) rfl ?_
    show Steps p.tables e below (T1.setTop (mkF m 11 #[.val (.ref a), .val (.ref x), .val (.ref ea), .val (.int (0 : Int32))] [])) _
    refine XS.aloadN X1.here hx rfl (hb hby own_d7_11) rfl rfl ?_
    show Steps p.tables e below (T1.setTop (mkF m 12 #[.val (.ref a), .val (.ref x), .val (.ref ea), .val (.int (0 : Int32))] [(.ref ea)])) _
    refine XS.iloadN X1.here hx rfl (hb hby own_d7_12) rfl ?_
    show Steps p.tables e below (T1.setTop (mkF m 13 #[.val (.ref a), .val (.ref x), .val (.ref ea), .val (.int (0 : Int32))] [(.int (0 : Int32)), (.ref ea)])) _
    refine XS.aloadN X1.here hx rfl (hb hby own_d7_13) rfl rfl ?_
    show Steps p.tables e below (T1.setTop (mkF m 14 #[.val (.ref a), .val (.ref x), .val (.ref ea), .val (.int (0 : Int32))] [(.ref x), (.int (0 : Int32)), (.ref ea)])) _
    refine st2 _ ?_
    show Steps p.tables e below (T2.setTop (mkF m 15 #[.val (.ref a), .val (.ref x), .val (.ref ea), .val (.int (0 : Int32))] [])) _
    refine XS.aloadN X2.here hx rfl (hb hby own_d7_15) rfl rfl ?_
    show Steps p.tables e below (T2.setTop (mkF m 16 #[.val (.ref a), .val (.ref x), .val (.ref ea), .val (.int (0 : Int32))] [(.ref a)])) _
    refine XS.iloadN X2.here hx rfl (hb hby own_d7_16) rfl ?_
    show Steps p.tables e below (T2.setTop (mkF m 17 #[.val (.ref a), .val (.ref x), .val (.ref ea), .val (.int (0 : Int32))] [(.int (0 : Int32)), (.ref a)])) _
    refine XS.iconst X2.here hx rfl (hb hby own_d7_17) ?_
    show Steps p.tables e below (T2.setTop (mkF m 18 #[.val (.ref a), .val (.ref x), .val (.ref ea), .val (.int (0 : Int32))] [(.int (1 : Int32)), (.int (0 : Int32)), (.ref a)])) _
    refine XS.iadd X2.here hx rfl (hb hby own_d7_18) rfl ?_
    show Steps p.tables e below (T2.setTop (mkF m 19 #[.val (.ref a), .val (.ref x), .val (.ref ea), .val (.int (0 : Int32))] [(.int ((0 : Int32) + (1 : Int32))), (.ref a)])) _
    rw [show ((0 : Int32) + (1 : Int32)) = (1 : Int32) from by decide]
    show Steps p.tables e below (T2.setTop (mkF m 19 #[.val (.ref a), .val (.ref x), .val (.ref ea), .val (.int (0 : Int32))] [(.int (1 : Int32)), (.ref a)])) _
    refine st3 _ ?_
    show Steps p.tables e below (T3.setTop (mkF m 22 #[.val (.ref a), .val (.ref x), .val (.ref ea), .val (.int (0 : Int32))] [])) _
    exact X3.returnOut hx Bd.returns (hb hby own_d7_22) hr
  · show own_Q_addp Z a x D cD ich icc kA kS f0 f1 f2 f3 mc h0 n0 _ T3.heap _
    rw [e3]
    exact ⟨ea, rfl, N3, O3, KC3, ⟨f3_E_a, ⟨_, f3_F_a_modCount⟩, f3_F_a_elementData, f3_F_a_size, ⟨_, f3_A_ea, oE, cz2, cv2⟩, p1_ne_a_ea⟩, sz_ea⟩
theorem own_d6_0 : decode jdk_38_method_25_code 0 = .ok (.aload_n 0, 1) := by decide +kernel
theorem own_d6_1 : decode jdk_38_method_25_code 1 = .ok (.dup, 1) := by decide +kernel
theorem own_d6_2 : decode jdk_38_method_25_code 2 = .ok (.getfield 63, 3) := by decide +kernel
theorem own_d6_5 : decode jdk_38_method_25_code 5 = .ok (.iconst 1, 1) := by decide +kernel
theorem own_d6_6 : decode jdk_38_method_25_code 6 = .ok (.iadd, 1) := by decide +kernel
theorem own_d6_7 : decode jdk_38_method_25_code 7 = .ok (.putfield 63, 3) := by decide +kernel
theorem own_d6_10 : decode jdk_38_method_25_code 10 = .ok (.aload_n 0, 1) := by decide +kernel
theorem own_d6_11 : decode jdk_38_method_25_code 11 = .ok (.aload_n 1, 1) := by decide +kernel
theorem own_d6_12 : decode jdk_38_method_25_code 12 = .ok (.aload_n 0, 1) := by decide +kernel
theorem own_d6_13 : decode jdk_38_method_25_code 13 = .ok (.getfield 9, 3) := by decide +kernel
theorem own_d6_16 : decode jdk_38_method_25_code 16 = .ok (.aload_n 0, 1) := by decide +kernel
theorem own_d6_17 : decode jdk_38_method_25_code 17 = .ok (.getfield 48, 3) := by decide +kernel
theorem own_d6_20 : decode jdk_38_method_25_code 20 = .ok (.invokevirtual 131, 3) := by decide +kernel
theorem own_pd4 : parseMethodDescriptor "(Ljava/lang/Object;[Ljava/lang/Object;I)V" = some ⟨[(.object "java/lang/Object"), (.array (.object "java/lang/Object")), .int], none⟩ := by decide +kernel
theorem own_d6_23 : decode jdk_38_method_25_code 23 = .ok (.iconst 1, 1) := by decide +kernel
theorem own_d6_24 : decode jdk_38_method_25_code 24 = .ok (.ireturn, 1) := by decide +kernel
def own_Q_add (Z : State) (a : Addr) (x : Addr) (D : Addr) (cD : Cell) (ich : Addr) (icc : Cell) (kA : Addr) (kS : Addr) (f0 : Addr) (f1 : Addr) (f2 : Addr) (f3 : Addr) (h0 : Heap) (n0 : Nat) (vv_ : Option Value) (hh_ : Heap) (LL_ : List Loc) : Prop := ∃ ea : Addr, vv_ = some (.int (1 : Int32)) ∧ Fr n0 LL_ ∧ Old Z n0 hh_ ∧ Keep h0 hh_ [a] ∧ own_AL Z hh_ a ea (1 : Int32) (own_uv (fun _ => Value.null) 0 (.ref x)) ∧ h0.size ≤ ea
theorem own_ef6 (m : MethodId) (x0 : Addr) (x1 : Addr) : entryFrame m #[(.ref x0), (.ref x1)] 2 = mkF m 0 #[.val (.ref x0), .val (.ref x1)] [] := by first | (simp [entryFrame, mkF, argsToLocals, Value.category]; done) | rfl
set_option maxRecDepth 65536 in
set_option maxHeartbeats 40000000 in
theorem own_add (l : Launch) (Z : State) (a0 : Array Value) (hw : ∀ d ∈ tables_1, d.before a0 Z = true) (ws : List Jvm.Cond) (a : Addr) (x : Addr) (D : Addr) (cD : Cell) (ich : Addr) (icc : Cell) (kA : Addr) (kS : Addr) (f0 : Addr) (f1 : Addr) (f2 : Addr) (f3 : Addr) (h0 : Heap) (n0 : Nat) (O0 : Old Z n0 h0) (K : own_W Z D cD ich icc kA kS f0 f1 f2 f3) (pm_E_a : Exa Z h0 a "java/util/ArrayList") (pm_F_a_modCount : Fld Z h0 a "java/util/AbstractList" "modCount" "I" (.int (0 : Int32))) (pm_F_a_elementData : Fld Z h0 a "java/util/ArrayList" "elementData" "[Ljava/lang/Object;" (.ref D)) (pm_F_a_size : Fld Z h0 a "java/util/ArrayList" "size" "I" (.int (0 : Int32))) (pm_ge_a : n0 ≤ a) (IX : Ins Z h0 x "java/lang/Object" true) :
    MetFree l (⟨"java/util/ArrayList", "add", "(Ljava/lang/Object;)Z"⟩ : MethodName) (head1 (Jvm.Cond.code (⟨"java/util/ArrayList", "add", "(Ljava/lang/Object;)Z"⟩ : MethodName) jdk_38_method_25_code 2 (some .boolean) :: ws) ({ frames := 4, cells := 1, slots := 10, locals := 56 } : Room)) (fun aa_ U_ => aa_ = #[(.ref a), (.ref x)] ∧ Z.Warmed39 U_.vm ∧ U_.heap = h0) (fun _ _ _ _ _ => True) (fun _ U_ oo_ UU_ => ∃ vv_ LL_, oo_ = .returned vv_ ∧ own_Q_add Z a x D cD ich icc kA kS f0 f1 f2 f3 h0 n0 vv_ UU_.heap LL_ ∧ FrameEnd U_ oo_ UU_ LL_ ({ frames := 4, cells := 1, slots := 10, locals := 56 } : Room).cells ({ frames := 4, cells := 1, slots := 10, locals := 56 } : Room).slots) := by
  have KK := K
  obtain ⟨SD, AD0, zD, SH, SC, AC0, zC, vC, SA, SS, neAS, S0, S1, S2, S3⟩ := KK
  have AD := AD0.ext O0.2
  have ne_D_a : D ≠ a := O0.ne AD0.lt pm_ge_a
  refine MetFree.of_bodySF (plainFor_of_name own_pn2) hisR ?_
  intro p e s m args below meth c s₁ Bd hml0 hP hK
  obtain ⟨rfl, hZ, hh⟩ := hP
  have hx := Bd.exec
  have hby := Bd.bytes
  have hml : c.maxLocals = 2 := hml0
  have hown : s.vm.findClass "java/util/ArrayList" = some m.cls := findClass_of_methodNamed Bd.named
  have hnm := (name_of_methodNamed Bd.named Bd.method).1
  have X0 : Stand p l e ({ frames := 4, cells := 1, slots := 10, locals := 56 } : Room) s m #[(.ref a), (.ref x)] below meth c s₁ [] 0 0 := Stand.of_body Bd
  have e0 : s₁.heap = h0 := by rw [← hh, Bd.state]; rfl
  have N0 := Fr.nil n0
  have pre0 : ∀ tt_, Steps p.tables e below (s₁.setTop (mkF m 0 #[.val (.ref a), .val (.ref x)] [])) tt_ → Steps p.tables e below (s₁.setTop (entryFrame m #[(.ref a), (.ref x)] 2)) tt_ := fun tt_ kk_ => castTop (own_ef6 m a x) kk_
  obtain ⟨T1, X1, e1, st1⟩ := getF X0 hx hZ hown (host := "") (Or.inl (hw _ (List.mem_of_getElem? (i := 42) rfl))) (Via.of (hw _ (List.mem_of_getElem? (i := 43) rfl))) e0 pm_F_a_modCount (g := (mkF m 2 #[.val (.ref a), .val (.ref x)] [(.ref a), (.ref a)])) rfl rfl (hb hby own_d6_2)
  obtain ⟨T2, h2, X2, e2, W2, st2⟩ := putF X1 hx hZ hown (host := "") (Or.inl (hw _ (List.mem_of_getElem? (i := 42) rfl))) (Via.of (hw _ (List.mem_of_getElem? (i := 43) rfl))) e1 pm_F_a_modCount pm_E_a (Or.inl (hw _ (List.mem_of_getElem? (i := 22) rfl))) (hw _ (List.mem_of_getElem? (i := 1) rfl)) (ty := .int) (by decide) rfl rfl (g := (mkF m 7 #[.val (.ref a), .val (.ref x)] [(.int (1 : Int32)), (.ref a)])) rfl rfl (hb hby own_d6_7)
  have f2_E_a := pm_E_a.wr W2
  have f2_F_a_modCount := pm_F_a_modCount.same W2
  have f2_F_a_elementData := pm_F_a_elementData.other W2 (Or.inr (slot_ne (Or.inl (hw _ (List.mem_of_getElem? (i := 25) rfl))) (Or.inl (hw _ (List.mem_of_getElem? (i := 22) rfl))) (by decide) (t := (.array (.object "java/lang/Object"))) (t' := .int) (by decide) (by decide)))
  have f2_F_a_size := pm_F_a_size.other W2 (Or.inr (slot_ne (Or.inl (hw _ (List.mem_of_getElem? (i := 45) rfl))) (Or.inl (hw _ (List.mem_of_getElem? (i := 22) rfl))) (by decide) (t := .int) (t' := .int) (by decide) (by decide)))
  have f2_I_x := IX.wr W2
  have O2 := O0.wr W2 pm_ge_a
  have KC2 := (Keep.refl h0 [a]).wr W2 (Or.inl (List.mem_of_getElem? (i := 0) rfl))
  have N2 := Fr.snoc X2 N0 pm_ge_a
  obtain ⟨T3, X3, e3, st3⟩ := getF X2 hx hZ hown (host := "") (Or.inl (hw _ (List.mem_of_getElem? (i := 24) rfl))) Via.refl e2 f2_F_a_elementData (g := (mkF m 13 #[.val (.ref a), .val (.ref x)] [(.ref a), (.ref x), (.ref a)])) rfl rfl (hb hby own_d6_13)
  obtain ⟨T4, X4, e4, st4⟩ := getF X3 hx hZ hown (host := "") (Or.inl (hw _ (List.mem_of_getElem? (i := 44) rfl))) Via.refl e3 f2_F_a_size (g := (mkF m 17 #[.val (.ref a), .val (.ref x)] [(.ref a), (.ref D), (.ref x), (.ref a)])) rfl rfl (hb hby own_d6_17)
  obtain ⟨cq5, q5, q5'⟩ := f2_E_a.cell
  obtain ⟨_, _, ⟨T5, L5, k5, n5⟩, -, X5, ⟨Lc5, hQ5, l5, y5, z5⟩, st5⟩ := X4.privateBack hx (y := (⟨"java/util/ArrayList", "add", "(Ljava/lang/Object;[Ljava/lang/Object;I)V"⟩ : MethodName)) hown (mvT hZ (hw _ (List.mem_of_getElem? (i := 46) rfl))) (mvT hZ (hw _ (List.mem_of_getElem? (i := 47) rfl))) (mvT hZ (hw _ (List.mem_of_getElem? (i := 49) rfl))) (Cond.privateMethod_at (mvP hZ (hw _ (List.mem_of_getElem? (i := 48) rfl)) (args := #[]))) (mvT hZ (hw _ (List.mem_of_getElem? (i := 50) rfl))) (by decide) (backOf (W := 0) (own_addp l Z a0 hw [] a x D cD ich icc kA kS f0 f1 f2 f3 (1 : Int32) h2 n0 O2 K f2_E_a f2_F_a_modCount f2_F_a_elementData f2_F_a_size pm_ge_a f2_I_x) hZ (hw _ (List.mem_of_getElem? (i := 50) rfl)) (hw _ (List.mem_of_getElem? (i := 2) rfl)) (by decide) (by decide)) (g := (mkF m 20 #[.val (.ref a), .val (.ref x)] [(.int (0 : Int32)), (.ref D), (.ref x), (.ref a)])) rfl (by rw [hml]; rfl) (Steps.refl _) (a := a) (by rw [e4]; exact q5) q5' (argsL := [(.ref x), (.ref D), (.int (0 : Int32))]) (rest := []) (lenOf own_pd4 rfl) rfl (by show 2 * 0 + _ ≤ _; exact Nat.le_of_eq rfl) (hb hby own_d6_20) (fun _ _ => ⟨rfl, e4, (by decide : 0 + 1 ≤ _), (by decide : 0 + 10 ≤ _)⟩)
  dsimp only [Pt.U, Pt.locs, Pt.cells, Pt.slots] at X5 l5 y5 z5 st5 hQ5
  subst l5 y5 z5
  obtain ⟨ea, rfl, N5q, O5, K5, p5_L_a, p5_fresh_ea⟩ := hQ5
  have N5 := Fr.app N2 N5q
  have ne_a_ea : a ≠ ea := Nat.ne_of_lt (Nat.lt_of_lt_of_le f2_E_a.lt p5_fresh_ea)
  have g_ea : n0 ≤ ea := Nat.le_trans (Nat.le_trans (Nat.le_of_eq O2.1.symm) O2.2.1) p5_fresh_ea
  have sz_ea : h0.size ≤ ea := Nat.le_trans KC2.1 p5_fresh_ea
  have f5_I_x := own_insKeep f2_I_x K5
  have KC5 := KC2.trans K5 (allS (Or.inl (List.mem_of_getElem? (i := 0) rfl)) all0)
  obtain ⟨fs, hr, hrun, hended, hW, hsame⟩ := X5.leave (v := some (.int (1 : Int32))) (fun h => by rw [Bd.returns] at h; cases h)
  refine ⟨_, _, pre0 _ ?_, hrun, hended, _, _, rfl, ?_, ⟨_, rfl⟩, hW, hsame.mono (by decide) (by decide)⟩
  · show Steps p.tables e below (s₁.setTop (mkF m 0 #[.val (.ref a), .val (.ref x)] [])) _
    refine XS.aloadN X0.here hx rfl (hb hby own_d6_0) rfl rfl ?_
    show Steps p.tables e below (s₁.setTop (mkF m 1 #[.val (.ref a), .val (.ref x)] [(.ref a)])) _
    refine XS.dup X0.here hx rfl (hb hby own_d6_1) rfl rfl ?_
    show Steps p.tables e below (s₁.setTop (mkF m 2 #[.val (.ref a), .val (.ref x)] [(.ref a), (.ref a)])) _
    refine st1 _ ?_
    show Steps p.tables e below (T1.setTop (mkF m 5 #[.val (.ref a), .val (.ref x)] [(.int (0 : Int32)), (.ref a)])) _
    refine XS.iconst X1.here hx rfl (hb hby own_d6_5) ?_
    show Steps p.tables e below (T1.setTop (mkF m 6 #[.val (.ref a), .val (.ref x)] [(.int (1 : Int32)), (.int (0 : Int32)), (.ref a)])) _
    refine XS.iadd X1.here hx rfl (hb hby own_d6_6) rfl ?_
    show Steps p.tables e below (T1.setTop (mkF m 7 #[.val (.ref a), .val (.ref x)] [(.int ((0 : Int32) + (1 : Int32))), (.ref a)])) _
    rw [show ((0 : Int32) + (1 : Int32)) = (1 : Int32) from by decide]
    show Steps p.tables e below (T1.setTop (mkF m 7 #[.val (.ref a), .val (.ref x)] [(.int (1 : Int32)), (.ref a)])) _
    refine st2 _ ?_
    show Steps p.tables e below (T2.setTop (mkF m 10 #[.val (.ref a), .val (.ref x)] [])) _
    refine XS.aloadN X2.here hx rfl (hb hby own_d6_10) rfl rfl ?_
    show Steps p.tables e below (T2.setTop (mkF m 11 #[.val (.ref a), .val (.ref x)] [(.ref a)])) _
    refine XS.aloadN X2.here hx rfl (hb hby own_d6_11) rfl rfl ?_
    show Steps p.tables e below (T2.setTop (mkF m 12 #[.val (.ref a), .val (.ref x)] [(.ref x), (.ref a)])) _
    refine XS.aloadN X2.here hx rfl (hb hby own_d6_12) rfl rfl ?_
    show Steps p.tables e below (T2.setTop (mkF m 13 #[.val (.ref a), .val (.ref x)] [(.ref a), (.ref x), (.ref a)])) _
    refine st3 _ ?_
    show Steps p.tables e below (T3.setTop (mkF m 16 #[.val (.ref a), .val (.ref x)] [(.ref D), (.ref x), (.ref a)])) _
    refine XS.aloadN X3.here hx rfl (hb hby own_d6_16) rfl rfl ?_
    show Steps p.tables e below (T3.setTop (mkF m 17 #[.val (.ref a), .val (.ref x)] [(.ref a), (.ref D), (.ref x), (.ref a)])) _
    refine st4 _ ?_
    show Steps p.tables e below (T4.setTop (mkF m 20 #[.val (.ref a), .val (.ref x)] [(.int (0 : Int32)), (.ref D), (.ref x), (.ref a)])) _
    refine st5.trans ?_
    show Steps p.tables e below (T5.setTop (mkF m 23 #[.val (.ref a), .val (.ref x)] [])) _
    refine XS.iconst X5.here hx rfl (hb hby own_d6_23) ?_
    show Steps p.tables e below (T5.setTop (mkF m 24 #[.val (.ref a), .val (.ref x)] [(.int (1 : Int32))])) _
    exact retN X5 hx (t := .boolean) Bd.returns (by simp) (hb hby own_d6_24) hr
  · show own_Q_add Z a x D cD ich icc kA kS f0 f1 f2 f3 h0 n0 _ T5.heap _
    exact ⟨ea, rfl, N5, O5, KC5, p5_L_a, sz_ea⟩
def own_Q_addq1 (Z : State) (a : Addr) (x : Addr) (ea : Addr) (vs : Nat → Value) (h0 : Heap) (n0 : Nat) (vv_ : Option Value) (hh_ : Heap) (LL_ : List Loc) : Prop := vv_ = none ∧ Fr n0 LL_ ∧ Old Z n0 hh_ ∧ Keep h0 hh_ [a, ea] ∧ own_AL Z hh_ a ea (2 : Int32) (own_uv vs 1 (.ref x))
set_option maxRecDepth 65536 in
set_option maxHeartbeats 40000000 in
theorem own_addq1 (l : Launch) (Z : State) (a0 : Array Value) (hw : ∀ d ∈ tables_1, d.before a0 Z = true) (ws : List Jvm.Cond) (a : Addr) (x : Addr) (ea : Addr) (vs : Nat → Value) (h0 : Heap) (n0 : Nat) (O0 : Old Z n0 h0)  (pm_L_a : own_AL Z h0 a ea (1 : Int32) vs) (pm_ge_a : n0 ≤ a) (pm_ge_ea : n0 ≤ ea) (IX : Ins Z h0 x "java/lang/Object" true) :
    MetFree l (⟨"java/util/ArrayList", "add", "(Ljava/lang/Object;[Ljava/lang/Object;I)V"⟩ : MethodName) (head1 (Jvm.Cond.code (⟨"java/util/ArrayList", "add", "(Ljava/lang/Object;[Ljava/lang/Object;I)V"⟩ : MethodName) jdk_38_method_24_code 4 none :: ws) ({ frames := 0, cells := 0, slots := 0, locals := 0 } : Room)) (fun aa_ U_ => aa_ = #[(.ref a), (.ref x), (.ref ea), (.int (1 : Int32))] ∧ Z.Warmed39 U_.vm ∧ U_.heap = h0) (fun _ _ _ _ _ => True) (fun _ U_ oo_ UU_ => ∃ vv_ LL_, oo_ = .returned vv_ ∧ own_Q_addq1 Z a x ea vs h0 n0 vv_ UU_.heap LL_ ∧ FrameEnd U_ oo_ UU_ LL_ ({ frames := 0, cells := 0, slots := 0, locals := 0 } : Room).cells ({ frames := 0, cells := 0, slots := 0, locals := 0 } : Room).slots) := by
  obtain ⟨gE, ⟨mc, gM⟩, gD, gS, ⟨cE, aE, oE, zE, vE⟩, gne⟩ := pm_L_a
  refine MetFree.of_bodySF (plainFor_of_name own_pn2) hisR ?_
  intro p e s m args below meth c s₁ Bd hml0 hP hK
  obtain ⟨rfl, hZ, hh⟩ := hP
  have hx := Bd.exec
  have hby := Bd.bytes
  have hml : c.maxLocals = 4 := hml0
  have hown : s.vm.findClass "java/util/ArrayList" = some m.cls := findClass_of_methodNamed Bd.named
  have hnm := (name_of_methodNamed Bd.named Bd.method).1
  have X0 : Stand p l e ({ frames := 0, cells := 0, slots := 0, locals := 0 } : Room) s m #[(.ref a), (.ref x), (.ref ea), (.int (1 : Int32))] below meth c s₁ [] 0 0 := Stand.of_body Bd
  have e0 : s₁.heap = h0 := by rw [← hh, Bd.state]; rfl
  have N0 := Fr.nil n0
  have pre0 : ∀ tt_, Steps p.tables e below (s₁.setTop (mkF m 0 #[.val (.ref a), .val (.ref x), .val (.ref ea), .val (.int (1 : Int32))] [])) tt_ → Steps p.tables e below (s₁.setTop (entryFrame m #[(.ref a), (.ref x), (.ref ea), (.int (1 : Int32))] 4)) tt_ := fun tt_ kk_ => castTop (own_ef7 m a x ea (1 : Int32)) kk_
  have hin1 : ¬ ((1 : Int32) < 0 ∨ cE.slots.size ≤ (1 : Int32).toNatClampNeg) := by rw [zE]; decide
  have sto1 := Sto.of aE oE IX
  obtain ⟨T1, h1, X1, e1, W1, st1⟩ := stR X0 hx hZ e0 aE (j := (1 : Int32)) hin1 rfl sto1 (g := (mkF m 14 #[.val (.ref a), .val (.ref x), .val (.ref ea), .val (.int (1 : Int32))] [(.ref x), (.int (1 : Int32)), (.ref ea)])) rfl rfl (hb hby own_d7_14)
  have f1_E_a := gE.wr W1
  have f1_F_a_modCount := gM.other W1 (Or.inl gne)
  have f1_F_a_elementData := gD.other W1 (Or.inl gne)
  have f1_F_a_size := gS.other W1 (Or.inl gne)
  have f1_A_ea := aE.same W1
  have f1_I_x := IX.wr W1
  have O1 := O0.wr W1 pm_ge_ea
  have KC1 := (Keep.refl h0 [a, ea]).wr W1 (Or.inl (List.mem_of_getElem? (i := 1) rfl))
  have N1 := Fr.snoc X1 N0 pm_ge_ea
  have cz1 := (sz_set cE (1 : Int32).toNatClampNeg (.ref x)).trans zE
  have cv1 := own_setV (i := (1 : Int32).toNatClampNeg) (x := (.ref x)) zE (by decide) vE
  obtain ⟨T2, h2, X2, e2, W2, st2⟩ := putF X1 hx hZ hown (host := "") (Or.inl (hw _ (List.mem_of_getElem? (i := 44) rfl))) Via.refl e1 f1_F_a_size f1_E_a (Or.inl (hw _ (List.mem_of_getElem? (i := 45) rfl))) (hw _ (List.mem_of_getElem? (i := 1) rfl)) (ty := .int) (by decide) rfl rfl (g := (mkF m 19 #[.val (.ref a), .val (.ref x), .val (.ref ea), .val (.int (1 : Int32))] [(.int (2 : Int32)), (.ref a)])) rfl rfl (hb hby own_d7_19)
  have f2_E_a := f1_E_a.wr W2
  have f2_F_a_modCount := f1_F_a_modCount.other W2 (Or.inr (slot_ne (Or.inl (hw _ (List.mem_of_getElem? (i := 22) rfl))) (Or.inl (hw _ (List.mem_of_getElem? (i := 45) rfl))) (by decide) (t := .int) (t' := .int) (by decide) (by decide)))
  have f2_F_a_elementData := f1_F_a_elementData.other W2 (Or.inr (slot_ne (Or.inl (hw _ (List.mem_of_getElem? (i := 25) rfl))) (Or.inl (hw _ (List.mem_of_getElem? (i := 45) rfl))) (by decide) (t := (.array (.object "java/lang/Object"))) (t' := .int) (by decide) (by decide)))
  have f2_F_a_size := f1_F_a_size.same W2
  have f2_A_ea := f1_A_ea.other W2 (Ne.symm gne)
  have f2_I_x := f1_I_x.wr W2
  have O2 := O1.wr W2 pm_ge_a
  have KC2 := KC1.wr W2 (Or.inl (List.mem_of_getElem? (i := 0) rfl))
  have N2 := Fr.snoc X2 N1 pm_ge_a
  obtain ⟨fs, hr, hrun, hended, hW, hsame⟩ := X2.leave (v := none) (fun _ => rfl)
  refine ⟨_, _, pre0 _ ?_, hrun, hended, _, _, rfl, ?_, ⟨_, rfl⟩, hW, hsame.mono (by decide) (by decide)⟩
  · show Steps p.tables e below (s₁.setTop (mkF m 0 #[.val (.ref a), .val (.ref x), .val (.ref ea), .val (.int (1 : Int32))] [])) _
    refine XS.iloadN X0.here hx rfl (hb hby own_d7_0) rfl ?_
    show Steps p.tables e below (s₁.setTop (mkF m 1 #[.val (.ref a), .val (.ref x), .val (.ref ea), .val (.int (1 : Int32))] [(.int (1 : Int32))])) _
    refine XS.aloadN X0.here hx rfl (hb hby own_d7_1) rfl rfl ?_
    show Steps p.tables e below (s₁.setTop (mkF m 2 #[.val (.ref a), .val (.ref x), .val (.ref ea), .val (.int (1 : Int32))] [(.ref ea), (.int (1 : Int32))])) _
    refine X0.arraylength hx (by rw [e0]; exact aE.1) (State.isArrayOf_alike hZ.alike aE.2.1) (g := (mkF m 2 #[.val (.ref a), .val (.ref x), .val (.ref ea), .val (.int (1 : Int32))] [(.ref ea), (.int (1 : Int32))])) rfl rfl (hb hby own_d7_2) _ ?_
    rw [len_of (z := (10 : Int32)) (zE.trans (by decide)) (by decide)]
    show Steps p.tables e below (s₁.setTop (mkF m 3 #[.val (.ref a), .val (.ref x), .val (.ref ea), .val (.int (1 : Int32))] [(.int (10 : Int32)), (.int (1 : Int32))])) _
    refine XS.icmpYes X0.here hx rfl (pc0 := 3) (pc' := 11) rfl (hb hby own_d7_3) rfl (feq (by decide : ¬ ((1 : Int32) = (10 : Int32)))).2 (by decide) (by decide) ?_
    show Steps p.tables e below (s₁.setTop (mkF m 11 #[.val (.ref a), .val (.ref x), .val (.ref ea), .val (.int (1 : Int32))] [])) _
    refine XS.aloadN X0.here hx rfl (hb hby own_d7_11) rfl rfl ?_
    show Steps p.tables e below (s₁.setTop (mkF m 12 #[.val (.ref a), .val (.ref x), .val (.ref ea), .val (.int (1 : Int32))] [(.ref ea)])) _
    refine XS.iloadN X0.here hx rfl (hb hby own_d7_12) rfl ?_
    show Steps p.tables e below (s₁.setTop (mkF m 13 #[.val (.ref a), .val (.ref x), .val (.ref ea), .val (.int (1 : Int32))] [(.int (1 : Int32)), (.ref ea)])) _
    refine XS.aloadN X0.here hx rfl (hb hby own_d7_13) rfl rfl ?_
    show Steps p.tables e below (s₁.setTop (mkF m 14 #[.val (.ref a), .val (.ref x), .val (.ref ea), .val (.int (1 : Int32))] [(.ref x), (.int (1 : Int32)), (.ref ea)])) _
    refine st1 _ ?_
    show Steps p.tables e below (T1.setTop (mkF m 15 #[.val (.ref a), .val (.ref x), .val (.ref ea), .val (.int (1 : Int32))] [])) _
    refine XS.aloadN X1.here hx rfl (hb hby own_d7_15) rfl rfl ?_
    show Steps p.tables e below (T1.setTop (mkF m 16 #[.val (.ref a), .val (.ref x), .val (.ref ea), .val (.int (1 : Int32))] [(.ref a)])) _
    refine XS.iloadN X1.here hx rfl (hb hby own_d7_16) rfl ?_
    show Steps p.tables e below (T1.setTop (mkF m 17 #[.val (.ref a), .val (.ref x), .val (.ref ea), .val (.int (1 : Int32))] [(.int (1 : Int32)), (.ref a)])) _
    refine XS.iconst X1.here hx rfl (hb hby own_d7_17) ?_
    show Steps p.tables e below (T1.setTop (mkF m 18 #[.val (.ref a), .val (.ref x), .val (.ref ea), .val (.int (1 : Int32))] [(.int (1 : Int32)), (.int (1 : Int32)), (.ref a)])) _
    refine XS.iadd X1.here hx rfl (hb hby own_d7_18) rfl ?_
    show Steps p.tables e below (T1.setTop (mkF m 19 #[.val (.ref a), .val (.ref x), .val (.ref ea), .val (.int (1 : Int32))] [(.int ((1 : Int32) + (1 : Int32))), (.ref a)])) _
    rw [show ((1 : Int32) + (1 : Int32)) = (2 : Int32) from by decide]
    show Steps p.tables e below (T1.setTop (mkF m 19 #[.val (.ref a), .val (.ref x), .val (.ref ea), .val (.int (1 : Int32))] [(.int (2 : Int32)), (.ref a)])) _
    refine st2 _ ?_
    show Steps p.tables e below (T2.setTop (mkF m 22 #[.val (.ref a), .val (.ref x), .val (.ref ea), .val (.int (1 : Int32))] [])) _
    exact X2.returnOut hx Bd.returns (hb hby own_d7_22) hr
  · show own_Q_addq1 Z a x ea vs h0 n0 _ T2.heap _
    rw [e2]
    exact ⟨rfl, N2, O2, KC2, ⟨f2_E_a, ⟨_, f2_F_a_modCount⟩, f2_F_a_elementData, f2_F_a_size, ⟨_, f2_A_ea, oE, cz1, cv1⟩, gne⟩⟩
def own_Q_addm1 (Z : State) (a : Addr) (x : Addr) (ea : Addr) (vs : Nat → Value) (h0 : Heap) (n0 : Nat) (vv_ : Option Value) (hh_ : Heap) (LL_ : List Loc) : Prop := vv_ = some (.int (1 : Int32)) ∧ Fr n0 LL_ ∧ Old Z n0 hh_ ∧ Keep h0 hh_ [a, ea] ∧ own_AL Z hh_ a ea (2 : Int32) (own_uv vs 1 (.ref x))
set_option maxRecDepth 65536 in
set_option maxHeartbeats 40000000 in
theorem own_addm1 (l : Launch) (Z : State) (a0 : Array Value) (hw : ∀ d ∈ tables_1, d.before a0 Z = true) (ws : List Jvm.Cond) (a : Addr) (x : Addr) (ea : Addr) (vs : Nat → Value) (h0 : Heap) (n0 : Nat) (O0 : Old Z n0 h0)  (pm_L_a : own_AL Z h0 a ea (1 : Int32) vs) (pm_ge_a : n0 ≤ a) (pm_ge_ea : n0 ≤ ea) (IX : Ins Z h0 x "java/lang/Object" true) :
    MetFree l (⟨"java/util/ArrayList", "add", "(Ljava/lang/Object;)Z"⟩ : MethodName) (head1 (Jvm.Cond.code (⟨"java/util/ArrayList", "add", "(Ljava/lang/Object;)Z"⟩ : MethodName) jdk_38_method_25_code 2 (some .boolean) :: ws) ({ frames := 1, cells := 0, slots := 0, locals := 15 } : Room)) (fun aa_ U_ => aa_ = #[(.ref a), (.ref x)] ∧ Z.Warmed39 U_.vm ∧ U_.heap = h0) (fun _ _ _ _ _ => True) (fun _ U_ oo_ UU_ => ∃ vv_ LL_, oo_ = .returned vv_ ∧ own_Q_addm1 Z a x ea vs h0 n0 vv_ UU_.heap LL_ ∧ FrameEnd U_ oo_ UU_ LL_ ({ frames := 1, cells := 0, slots := 0, locals := 15 } : Room).cells ({ frames := 1, cells := 0, slots := 0, locals := 15 } : Room).slots) := by
  obtain ⟨gE, ⟨mc, gM⟩, gD, gS, ⟨cE, aE, oE, zE, vE⟩, gne⟩ := pm_L_a
  refine MetFree.of_bodySF (plainFor_of_name own_pn2) hisR ?_
  intro p e s m args below meth c s₁ Bd hml0 hP hK
  obtain ⟨rfl, hZ, hh⟩ := hP
  have hx := Bd.exec
  have hby := Bd.bytes
  have hml : c.maxLocals = 2 := hml0
  have hown : s.vm.findClass "java/util/ArrayList" = some m.cls := findClass_of_methodNamed Bd.named
  have hnm := (name_of_methodNamed Bd.named Bd.method).1
  have X0 : Stand p l e ({ frames := 1, cells := 0, slots := 0, locals := 15 } : Room) s m #[(.ref a), (.ref x)] below meth c s₁ [] 0 0 := Stand.of_body Bd
  have e0 : s₁.heap = h0 := by rw [← hh, Bd.state]; rfl
  have N0 := Fr.nil n0
  have pre0 : ∀ tt_, Steps p.tables e below (s₁.setTop (mkF m 0 #[.val (.ref a), .val (.ref x)] [])) tt_ → Steps p.tables e below (s₁.setTop (entryFrame m #[(.ref a), (.ref x)] 2)) tt_ := fun tt_ kk_ => castTop (own_ef6 m a x) kk_
  obtain ⟨T1, X1, e1, st1⟩ := getF X0 hx hZ hown (host := "") (Or.inl (hw _ (List.mem_of_getElem? (i := 42) rfl))) (Via.of (hw _ (List.mem_of_getElem? (i := 43) rfl))) e0 gM (g := (mkF m 2 #[.val (.ref a), .val (.ref x)] [(.ref a), (.ref a)])) rfl rfl (hb hby own_d6_2)
  obtain ⟨T2, h2, X2, e2, W2, st2⟩ := putF X1 hx hZ hown (host := "") (Or.inl (hw _ (List.mem_of_getElem? (i := 42) rfl))) (Via.of (hw _ (List.mem_of_getElem? (i := 43) rfl))) e1 gM gE (Or.inl (hw _ (List.mem_of_getElem? (i := 22) rfl))) (hw _ (List.mem_of_getElem? (i := 1) rfl)) (ty := .int) (by decide) rfl rfl (g := (mkF m 7 #[.val (.ref a), .val (.ref x)] [(.int (mc + (1 : Int32))), (.ref a)])) rfl rfl (hb hby own_d6_7)
  have f2_E_a := gE.wr W2
  have f2_F_a_modCount := gM.same W2
  have f2_F_a_elementData := gD.other W2 (Or.inr (slot_ne (Or.inl (hw _ (List.mem_of_getElem? (i := 25) rfl))) (Or.inl (hw _ (List.mem_of_getElem? (i := 22) rfl))) (by decide) (t := (.array (.object "java/lang/Object"))) (t' := .int) (by decide) (by decide)))
  have f2_F_a_size := gS.other W2 (Or.inr (slot_ne (Or.inl (hw _ (List.mem_of_getElem? (i := 45) rfl))) (Or.inl (hw _ (List.mem_of_getElem? (i := 22) rfl))) (by decide) (t := .int) (t' := .int) (by decide) (by decide)))
  have f2_A_ea := aE.other W2 (Ne.symm gne)
  have f2_I_x := IX.wr W2
  have O2 := O0.wr W2 pm_ge_a
  have KC2 := (Keep.refl h0 [a, ea]).wr W2 (Or.inl (List.mem_of_getElem? (i := 0) rfl))
  have N2 := Fr.snoc X2 N0 pm_ge_a
  obtain ⟨T3, X3, e3, st3⟩ := getF X2 hx hZ hown (host := "") (Or.inl (hw _ (List.mem_of_getElem? (i := 24) rfl))) Via.refl e2 f2_F_a_elementData (g := (mkF m 13 #[.val (.ref a), .val (.ref x)] [(.ref a), (.ref x), (.ref a)])) rfl rfl (hb hby own_d6_13)
  obtain ⟨T4, X4, e4, st4⟩ := getF X3 hx hZ hown (host := "") (Or.inl (hw _ (List.mem_of_getElem? (i := 44) rfl))) Via.refl e3 f2_F_a_size (g := (mkF m 17 #[.val (.ref a), .val (.ref x)] [(.ref a), (.ref ea), (.ref x), (.ref a)])) rfl rfl (hb hby own_d6_17)
  have LL : own_AL Z h2 a ea (1 : Int32) vs := ⟨f2_E_a, ⟨_, f2_F_a_modCount⟩, f2_F_a_elementData, f2_F_a_size, ⟨_, f2_A_ea, oE, zE, vE⟩, gne⟩
  obtain ⟨cq5, q5, q5'⟩ := LL.1.cell
  obtain ⟨_, _, ⟨T5, L5, k5, n5⟩, -, X5, ⟨Lc5, hQ5, l5, y5, z5⟩, st5⟩ := X4.privateBack hx (y := (⟨"java/util/ArrayList", "add", "(Ljava/lang/Object;[Ljava/lang/Object;I)V"⟩ : MethodName)) hown (mvT hZ (hw _ (List.mem_of_getElem? (i := 46) rfl))) (mvT hZ (hw _ (List.mem_of_getElem? (i := 47) rfl))) (mvT hZ (hw _ (List.mem_of_getElem? (i := 49) rfl))) (Cond.privateMethod_at (mvP hZ (hw _ (List.mem_of_getElem? (i := 48) rfl)) (args := #[]))) (mvT hZ (hw _ (List.mem_of_getElem? (i := 50) rfl))) (by decide) (backOf (W := 0) (own_addq1 l Z a0 hw [] a x ea vs h2 n0 O2  LL pm_ge_a pm_ge_ea f2_I_x) hZ (hw _ (List.mem_of_getElem? (i := 50) rfl)) (hw _ (List.mem_of_getElem? (i := 2) rfl)) (by decide) (by decide)) (g := (mkF m 20 #[.val (.ref a), .val (.ref x)] [(.int (1 : Int32)), (.ref ea), (.ref x), (.ref a)])) rfl (by rw [hml]; rfl) (Steps.refl _) (a := a) (by rw [e4]; exact q5) q5' (argsL := [(.ref x), (.ref ea), (.int (1 : Int32))]) (rest := []) (lenOf own_pd4 rfl) rfl (by show 2 * 0 + _ ≤ _; exact Nat.le_of_eq rfl) (hb hby own_d6_20) (fun _ _ => ⟨rfl, e4, (by decide : 0 + 0 ≤ _), (by decide : 0 + 0 ≤ _)⟩)
  dsimp only [Pt.U, Pt.locs, Pt.cells, Pt.slots] at X5 l5 y5 z5 st5 hQ5
  subst l5 y5 z5
  obtain ⟨rfl, N5q, O5, K5, p5_L_a⟩ := hQ5
  have N5 := Fr.app N2 N5q
  have f5_I_x := own_insKeep f2_I_x K5
  have KC5 := KC2.trans K5 (allS (Or.inl (List.mem_of_getElem? (i := 0) rfl)) (allS (Or.inl (List.mem_of_getElem? (i := 1) rfl)) all0))
  obtain ⟨fs, hr, hrun, hended, hW, hsame⟩ := X5.leave (v := some (.int (1 : Int32))) (fun h => by rw [Bd.returns] at h; cases h)
  refine ⟨_, _, pre0 _ ?_, hrun, hended, _, _, rfl, ?_, ⟨_, rfl⟩, hW, hsame.mono (by decide) (by decide)⟩
  · show Steps p.tables e below (s₁.setTop (mkF m 0 #[.val (.ref a), .val (.ref x)] [])) _
    refine XS.aloadN X0.here hx rfl (hb hby own_d6_0) rfl rfl ?_
    show Steps p.tables e below (s₁.setTop (mkF m 1 #[.val (.ref a), .val (.ref x)] [(.ref a)])) _
    refine XS.dup X0.here hx rfl (hb hby own_d6_1) rfl rfl ?_
    show Steps p.tables e below (s₁.setTop (mkF m 2 #[.val (.ref a), .val (.ref x)] [(.ref a), (.ref a)])) _
    refine st1 _ ?_
    show Steps p.tables e below (T1.setTop (mkF m 5 #[.val (.ref a), .val (.ref x)] [(.int mc), (.ref a)])) _
    refine XS.iconst X1.here hx rfl (hb hby own_d6_5) ?_
    show Steps p.tables e below (T1.setTop (mkF m 6 #[.val (.ref a), .val (.ref x)] [(.int (1 : Int32)), (.int mc), (.ref a)])) _
    refine XS.iadd X1.here hx rfl (hb hby own_d6_6) rfl ?_
    show Steps p.tables e below (T1.setTop (mkF m 7 #[.val (.ref a), .val (.ref x)] [(.int (mc + (1 : Int32))), (.ref a)])) _
    refine st2 _ ?_
    show Steps p.tables e below (T2.setTop (mkF m 10 #[.val (.ref a), .val (.ref x)] [])) _
    refine XS.aloadN X2.here hx rfl (hb hby own_d6_10) rfl rfl ?_
    show Steps p.tables e below (T2.setTop (mkF m 11 #[.val (.ref a), .val (.ref x)] [(.ref a)])) _
    refine XS.aloadN X2.here hx rfl (hb hby own_d6_11) rfl rfl ?_
    show Steps p.tables e below (T2.setTop (mkF m 12 #[.val (.ref a), .val (.ref x)] [(.ref x), (.ref a)])) _
    refine XS.aloadN X2.here hx rfl (hb hby own_d6_12) rfl rfl ?_
    show Steps p.tables e below (T2.setTop (mkF m 13 #[.val (.ref a), .val (.ref x)] [(.ref a), (.ref x), (.ref a)])) _
    refine st3 _ ?_
    show Steps p.tables e below (T3.setTop (mkF m 16 #[.val (.ref a), .val (.ref x)] [(.ref ea), (.ref x), (.ref a)])) _
    refine XS.aloadN X3.here hx rfl (hb hby own_d6_16) rfl rfl ?_
    show Steps p.tables e below (T3.setTop (mkF m 17 #[.val (.ref a), .val (.ref x)] [(.ref a), (.ref ea), (.ref x), (.ref a)])) _
    refine st4 _ ?_
    show Steps p.tables e below (T4.setTop (mkF m 20 #[.val (.ref a), .val (.ref x)] [(.int (1 : Int32)), (.ref ea), (.ref x), (.ref a)])) _
    refine st5.trans ?_
    show Steps p.tables e below (T5.setTop (mkF m 23 #[.val (.ref a), .val (.ref x)] [])) _
    refine XS.iconst X5.here hx rfl (hb hby own_d6_23) ?_
    show Steps p.tables e below (T5.setTop (mkF m 24 #[.val (.ref a), .val (.ref x)] [(.int (1 : Int32))])) _
    exact retN X5 hx (t := .boolean) Bd.returns (by simp) (hb hby own_d6_24) hr
  · show own_Q_addm1 Z a x ea vs h0 n0 _ T5.heap _
    exact ⟨rfl, N5, O5, KC5, p5_L_a⟩
def own_Q_addq2 (Z : State) (a : Addr) (x : Addr) (ea : Addr) (vs : Nat → Value) (h0 : Heap) (n0 : Nat) (vv_ : Option Value) (hh_ : Heap) (LL_ : List Loc) : Prop := vv_ = none ∧ Fr n0 LL_ ∧ Old Z n0 hh_ ∧ Keep h0 hh_ [a, ea] ∧ own_AL Z hh_ a ea (3 : Int32) (own_uv vs 2 (.ref x))
set_option maxRecDepth 65536 in
set_option maxHeartbeats 40000000 in
theorem own_addq2 (l : Launch) (Z : State) (a0 : Array Value) (hw : ∀ d ∈ tables_1, d.before a0 Z = true) (ws : List Jvm.Cond) (a : Addr) (x : Addr) (ea : Addr) (vs : Nat → Value) (h0 : Heap) (n0 : Nat) (O0 : Old Z n0 h0)  (pm_L_a : own_AL Z h0 a ea (2 : Int32) vs) (pm_ge_a : n0 ≤ a) (pm_ge_ea : n0 ≤ ea) (IX : Ins Z h0 x "java/lang/Object" true) :
    MetFree l (⟨"java/util/ArrayList", "add", "(Ljava/lang/Object;[Ljava/lang/Object;I)V"⟩ : MethodName) (head1 (Jvm.Cond.code (⟨"java/util/ArrayList", "add", "(Ljava/lang/Object;[Ljava/lang/Object;I)V"⟩ : MethodName) jdk_38_method_24_code 4 none :: ws) ({ frames := 0, cells := 0, slots := 0, locals := 0 } : Room)) (fun aa_ U_ => aa_ = #[(.ref a), (.ref x), (.ref ea), (.int (2 : Int32))] ∧ Z.Warmed39 U_.vm ∧ U_.heap = h0) (fun _ _ _ _ _ => True) (fun _ U_ oo_ UU_ => ∃ vv_ LL_, oo_ = .returned vv_ ∧ own_Q_addq2 Z a x ea vs h0 n0 vv_ UU_.heap LL_ ∧ FrameEnd U_ oo_ UU_ LL_ ({ frames := 0, cells := 0, slots := 0, locals := 0 } : Room).cells ({ frames := 0, cells := 0, slots := 0, locals := 0 } : Room).slots) := by
  obtain ⟨gE, ⟨mc, gM⟩, gD, gS, ⟨cE, aE, oE, zE, vE⟩, gne⟩ := pm_L_a
  refine MetFree.of_bodySF (plainFor_of_name own_pn2) hisR ?_
  intro p e s m args below meth c s₁ Bd hml0 hP hK
  obtain ⟨rfl, hZ, hh⟩ := hP
  have hx := Bd.exec
  have hby := Bd.bytes
  have hml : c.maxLocals = 4 := hml0
  have hown : s.vm.findClass "java/util/ArrayList" = some m.cls := findClass_of_methodNamed Bd.named
  have hnm := (name_of_methodNamed Bd.named Bd.method).1
  have X0 : Stand p l e ({ frames := 0, cells := 0, slots := 0, locals := 0 } : Room) s m #[(.ref a), (.ref x), (.ref ea), (.int (2 : Int32))] below meth c s₁ [] 0 0 := Stand.of_body Bd
  have e0 : s₁.heap = h0 := by rw [← hh, Bd.state]; rfl
  have N0 := Fr.nil n0
  have pre0 : ∀ tt_, Steps p.tables e below (s₁.setTop (mkF m 0 #[.val (.ref a), .val (.ref x), .val (.ref ea), .val (.int (2 : Int32))] [])) tt_ → Steps p.tables e below (s₁.setTop (entryFrame m #[(.ref a), (.ref x), (.ref ea), (.int (2 : Int32))] 4)) tt_ := fun tt_ kk_ => castTop (own_ef7 m a x ea (2 : Int32)) kk_
  have hin1 : ¬ ((2 : Int32) < 0 ∨ cE.slots.size ≤ (2 : Int32).toNatClampNeg) := by rw [zE]; decide
  have sto1 := Sto.of aE oE IX
  obtain ⟨T1, h1, X1, e1, W1, st1⟩ := stR X0 hx hZ e0 aE (j := (2 : Int32)) hin1 rfl sto1 (g := (mkF m 14 #[.val (.ref a), .val (.ref x), .val (.ref ea), .val (.int (2 : Int32))] [(.ref x), (.int (2 : Int32)), (.ref ea)])) rfl rfl (hb hby own_d7_14)
  have f1_E_a := gE.wr W1
  have f1_F_a_modCount := gM.other W1 (Or.inl gne)
  have f1_F_a_elementData := gD.other W1 (Or.inl gne)
  have f1_F_a_size := gS.other W1 (Or.inl gne)
  have f1_A_ea := aE.same W1
  have f1_I_x := IX.wr W1
  have O1 := O0.wr W1 pm_ge_ea
  have KC1 := (Keep.refl h0 [a, ea]).wr W1 (Or.inl (List.mem_of_getElem? (i := 1) rfl))
  have N1 := Fr.snoc X1 N0 pm_ge_ea
  have cz1 := (sz_set cE (2 : Int32).toNatClampNeg (.ref x)).trans zE
  have cv1 := own_setV (i := (2 : Int32).toNatClampNeg) (x := (.ref x)) zE (by decide) vE
  obtain ⟨T2, h2, X2, e2, W2, st2⟩ := putF X1 hx hZ hown (host := "") (Or.inl (hw _ (List.mem_of_getElem? (i := 44) rfl))) Via.refl e1 f1_F_a_size f1_E_a (Or.inl (hw _ (List.mem_of_getElem? (i := 45) rfl))) (hw _ (List.mem_of_getElem? (i := 1) rfl)) (ty := .int) (by decide) rfl rfl (g := (mkF m 19 #[.val (.ref a), .val (.ref x), .val (.ref ea), .val (.int (2 : Int32))] [(.int (3 : Int32)), (.ref a)])) rfl rfl (hb hby own_d7_19)
  have f2_E_a := f1_E_a.wr W2
  have f2_F_a_modCount := f1_F_a_modCount.other W2 (Or.inr (slot_ne (Or.inl (hw _ (List.mem_of_getElem? (i := 22) rfl))) (Or.inl (hw _ (List.mem_of_getElem? (i := 45) rfl))) (by decide) (t := .int) (t' := .int) (by decide) (by decide)))
  have f2_F_a_elementData := f1_F_a_elementData.other W2 (Or.inr (slot_ne (Or.inl (hw _ (List.mem_of_getElem? (i := 25) rfl))) (Or.inl (hw _ (List.mem_of_getElem? (i := 45) rfl))) (by decide) (t := (.array (.object "java/lang/Object"))) (t' := .int) (by decide) (by decide)))
  have f2_F_a_size := f1_F_a_size.same W2
  have f2_A_ea := f1_A_ea.other W2 (Ne.symm gne)
  have f2_I_x := f1_I_x.wr W2
  have O2 := O1.wr W2 pm_ge_a
  have KC2 := KC1.wr W2 (Or.inl (List.mem_of_getElem? (i := 0) rfl))
  have N2 := Fr.snoc X2 N1 pm_ge_a
  obtain ⟨fs, hr, hrun, hended, hW, hsame⟩ := X2.leave (v := none) (fun _ => rfl)
  refine ⟨_, _, pre0 _ ?_, hrun, hended, _, _, rfl, ?_, ⟨_, rfl⟩, hW, hsame.mono (by decide) (by decide)⟩
  · show Steps p.tables e below (s₁.setTop (mkF m 0 #[.val (.ref a), .val (.ref x), .val (.ref ea), .val (.int (2 : Int32))] [])) _
    refine XS.iloadN X0.here hx rfl (hb hby own_d7_0) rfl ?_
    show Steps p.tables e below (s₁.setTop (mkF m 1 #[.val (.ref a), .val (.ref x), .val (.ref ea), .val (.int (2 : Int32))] [(.int (2 : Int32))])) _
    refine XS.aloadN X0.here hx rfl (hb hby own_d7_1) rfl rfl ?_
    show Steps p.tables e below (s₁.setTop (mkF m 2 #[.val (.ref a), .val (.ref x), .val (.ref ea), .val (.int (2 : Int32))] [(.ref ea), (.int (2 : Int32))])) _
    refine X0.arraylength hx (by rw [e0]; exact aE.1) (State.isArrayOf_alike hZ.alike aE.2.1) (g := (mkF m 2 #[.val (.ref a), .val (.ref x), .val (.ref ea), .val (.int (2 : Int32))] [(.ref ea), (.int (2 : Int32))])) rfl rfl (hb hby own_d7_2) _ ?_
    rw [len_of (z := (10 : Int32)) (zE.trans (by decide)) (by decide)]
    show Steps p.tables e below (s₁.setTop (mkF m 3 #[.val (.ref a), .val (.ref x), .val (.ref ea), .val (.int (2 : Int32))] [(.int (10 : Int32)), (.int (2 : Int32))])) _
    refine XS.icmpYes X0.here hx rfl (pc0 := 3) (pc' := 11) rfl (hb hby own_d7_3) rfl (feq (by decide : ¬ ((2 : Int32) = (10 : Int32)))).2 (by decide) (by decide) ?_
    show Steps p.tables e below (s₁.setTop (mkF m 11 #[.val (.ref a), .val (.ref x), .val (.ref ea), .val (.int (2 : Int32))] [])) _
    refine XS.aloadN X0.here hx rfl (hb hby own_d7_11) rfl rfl ?_
    show Steps p.tables e below (s₁.setTop (mkF m 12 #[.val (.ref a), .val (.ref x), .val (.ref ea), .val (.int (2 : Int32))] [(.ref ea)])) _
    refine XS.iloadN X0.here hx rfl (hb hby own_d7_12) rfl ?_
    show Steps p.tables e below (s₁.setTop (mkF m 13 #[.val (.ref a), .val (.ref x), .val (.ref ea), .val (.int (2 : Int32))] [(.int (2 : Int32)), (.ref ea)])) _
    refine XS.aloadN X0.here hx rfl (hb hby own_d7_13) rfl rfl ?_
    show Steps p.tables e below (s₁.setTop (mkF m 14 #[.val (.ref a), .val (.ref x), .val (.ref ea), .val (.int (2 : Int32))] [(.ref x), (.int (2 : Int32)), (.ref ea)])) _
    refine st1 _ ?_
    show Steps p.tables e below (T1.setTop (mkF m 15 #[.val (.ref a), .val (.ref x), .val (.ref ea), .val (.int (2 : Int32))] [])) _
    refine XS.aloadN X1.here hx rfl (hb hby own_d7_15) rfl rfl ?_
    show Steps p.tables e below (T1.setTop (mkF m 16 #[.val (.ref a), .val (.ref x), .val (.ref ea), .val (.int (2 : Int32))] [(.ref a)])) _
    refine XS.iloadN X1.here hx rfl (hb hby own_d7_16) rfl ?_
    show Steps p.tables e below (T1.setTop (mkF m 17 #[.val (.ref a), .val (.ref x), .val (.ref ea), .val (.int (2 : Int32))] [(.int (2 : Int32)), (.ref a)])) _
    refine XS.iconst X1.here hx rfl (hb hby own_d7_17) ?_
    show Steps p.tables e below (T1.setTop (mkF m 18 #[.val (.ref a), .val (.ref x), .val (.ref ea), .val (.int (2 : Int32))] [(.int (1 : Int32)), (.int (2 : Int32)), (.ref a)])) _
    refine XS.iadd X1.here hx rfl (hb hby own_d7_18) rfl ?_
    show Steps p.tables e below (T1.setTop (mkF m 19 #[.val (.ref a), .val (.ref x), .val (.ref ea), .val (.int (2 : Int32))] [(.int ((2 : Int32) + (1 : Int32))), (.ref a)])) _
    rw [show ((2 : Int32) + (1 : Int32)) = (3 : Int32) from by decide]
    show Steps p.tables e below (T1.setTop (mkF m 19 #[.val (.ref a), .val (.ref x), .val (.ref ea), .val (.int (2 : Int32))] [(.int (3 : Int32)), (.ref a)])) _
    refine st2 _ ?_
    show Steps p.tables e below (T2.setTop (mkF m 22 #[.val (.ref a), .val (.ref x), .val (.ref ea), .val (.int (2 : Int32))] [])) _
    exact X2.returnOut hx Bd.returns (hb hby own_d7_22) hr
  · show own_Q_addq2 Z a x ea vs h0 n0 _ T2.heap _
    rw [e2]
    exact ⟨rfl, N2, O2, KC2, ⟨f2_E_a, ⟨_, f2_F_a_modCount⟩, f2_F_a_elementData, f2_F_a_size, ⟨_, f2_A_ea, oE, cz1, cv1⟩, gne⟩⟩
def own_Q_addm2 (Z : State) (a : Addr) (x : Addr) (ea : Addr) (vs : Nat → Value) (h0 : Heap) (n0 : Nat) (vv_ : Option Value) (hh_ : Heap) (LL_ : List Loc) : Prop := vv_ = some (.int (1 : Int32)) ∧ Fr n0 LL_ ∧ Old Z n0 hh_ ∧ Keep h0 hh_ [a, ea] ∧ own_AL Z hh_ a ea (3 : Int32) (own_uv vs 2 (.ref x))
set_option maxRecDepth 65536 in
set_option maxHeartbeats 40000000 in
theorem own_addm2 (l : Launch) (Z : State) (a0 : Array Value) (hw : ∀ d ∈ tables_1, d.before a0 Z = true) (ws : List Jvm.Cond) (a : Addr) (x : Addr) (ea : Addr) (vs : Nat → Value) (h0 : Heap) (n0 : Nat) (O0 : Old Z n0 h0)  (pm_L_a : own_AL Z h0 a ea (2 : Int32) vs) (pm_ge_a : n0 ≤ a) (pm_ge_ea : n0 ≤ ea) (IX : Ins Z h0 x "java/lang/Object" true) :
    MetFree l (⟨"java/util/ArrayList", "add", "(Ljava/lang/Object;)Z"⟩ : MethodName) (head1 (Jvm.Cond.code (⟨"java/util/ArrayList", "add", "(Ljava/lang/Object;)Z"⟩ : MethodName) jdk_38_method_25_code 2 (some .boolean) :: ws) ({ frames := 1, cells := 0, slots := 0, locals := 15 } : Room)) (fun aa_ U_ => aa_ = #[(.ref a), (.ref x)] ∧ Z.Warmed39 U_.vm ∧ U_.heap = h0) (fun _ _ _ _ _ => True) (fun _ U_ oo_ UU_ => ∃ vv_ LL_, oo_ = .returned vv_ ∧ own_Q_addm2 Z a x ea vs h0 n0 vv_ UU_.heap LL_ ∧ FrameEnd U_ oo_ UU_ LL_ ({ frames := 1, cells := 0, slots := 0, locals := 15 } : Room).cells ({ frames := 1, cells := 0, slots := 0, locals := 15 } : Room).slots) := by
  obtain ⟨gE, ⟨mc, gM⟩, gD, gS, ⟨cE, aE, oE, zE, vE⟩, gne⟩ := pm_L_a
  refine MetFree.of_bodySF (plainFor_of_name own_pn2) hisR ?_
  intro p e s m args below meth c s₁ Bd hml0 hP hK
  obtain ⟨rfl, hZ, hh⟩ := hP
  have hx := Bd.exec
  have hby := Bd.bytes
  have hml : c.maxLocals = 2 := hml0
  have hown : s.vm.findClass "java/util/ArrayList" = some m.cls := findClass_of_methodNamed Bd.named
  have hnm := (name_of_methodNamed Bd.named Bd.method).1
  have X0 : Stand p l e ({ frames := 1, cells := 0, slots := 0, locals := 15 } : Room) s m #[(.ref a), (.ref x)] below meth c s₁ [] 0 0 := Stand.of_body Bd
  have e0 : s₁.heap = h0 := by rw [← hh, Bd.state]; rfl
  have N0 := Fr.nil n0
  have pre0 : ∀ tt_, Steps p.tables e below (s₁.setTop (mkF m 0 #[.val (.ref a), .val (.ref x)] [])) tt_ → Steps p.tables e below (s₁.setTop (entryFrame m #[(.ref a), (.ref x)] 2)) tt_ := fun tt_ kk_ => castTop (own_ef6 m a x) kk_
  obtain ⟨T1, X1, e1, st1⟩ := getF X0 hx hZ hown (host := "") (Or.inl (hw _ (List.mem_of_getElem? (i := 42) rfl))) (Via.of (hw _ (List.mem_of_getElem? (i := 43) rfl))) e0 gM (g := (mkF m 2 #[.val (.ref a), .val (.ref x)] [(.ref a), (.ref a)])) rfl rfl (hb hby own_d6_2)
  obtain ⟨T2, h2, X2, e2, W2, st2⟩ := putF X1 hx hZ hown (host := "") (Or.inl (hw _ (List.mem_of_getElem? (i := 42) rfl))) (Via.of (hw _ (List.mem_of_getElem? (i := 43) rfl))) e1 gM gE (Or.inl (hw _ (List.mem_of_getElem? (i := 22) rfl))) (hw _ (List.mem_of_getElem? (i := 1) rfl)) (ty := .int) (by decide) rfl rfl (g := (mkF m 7 #[.val (.ref a), .val (.ref x)] [(.int (mc + (1 : Int32))), (.ref a)])) rfl rfl (hb hby own_d6_7)
  have f2_E_a := gE.wr W2
  have f2_F_a_modCount := gM.same W2
  have f2_F_a_elementData := gD.other W2 (Or.inr (slot_ne (Or.inl (hw _ (List.mem_of_getElem? (i := 25) rfl))) (Or.inl (hw _ (List.mem_of_getElem? (i := 22) rfl))) (by decide) (t := (.array (.object "java/lang/Object"))) (t' := .int) (by decide) (by decide)))
  have f2_F_a_size := gS.other W2 (Or.inr (slot_ne (Or.inl (hw _ (List.mem_of_getElem? (i := 45) rfl))) (Or.inl (hw _ (List.mem_of_getElem? (i := 22) rfl))) (by decide) (t := .int) (t' := .int) (by decide) (by decide)))
  have f2_A_ea := aE.other W2 (Ne.symm gne)
  have f2_I_x := IX.wr W2
  have O2 := O0.wr W2 pm_ge_a
  have KC2 := (Keep.refl h0 [a, ea]).wr W2 (Or.inl (List.mem_of_getElem? (i := 0) rfl))
  have N2 := Fr.snoc X2 N0 pm_ge_a
  obtain ⟨T3, X3, e3, st3⟩ := getF X2 hx hZ hown (host := "") (Or.inl (hw _ (List.mem_of_getElem? (i := 24) rfl))) Via.refl e2 f2_F_a_elementData (g := (mkF m 13 #[.val (.ref a), .val (.ref x)] [(.ref a), (.ref x), (.ref a)])) rfl rfl (hb hby own_d6_13)
  obtain ⟨T4, X4, e4, st4⟩ := getF X3 hx hZ hown (host := "") (Or.inl (hw _ (List.mem_of_getElem? (i := 44) rfl))) Via.refl e3 f2_F_a_size (g := (mkF m 17 #[.val (.ref a), .val (.ref x)] [(.ref a), (.ref ea), (.ref x), (.ref a)])) rfl rfl (hb hby own_d6_17)
  have LL : own_AL Z h2 a ea (2 : Int32) vs := ⟨f2_E_a, ⟨_, f2_F_a_modCount⟩, f2_F_a_elementData, f2_F_a_size, ⟨_, f2_A_ea, oE, zE, vE⟩, gne⟩
  obtain ⟨cq5, q5, q5'⟩ := LL.1.cell
  obtain ⟨_, _, ⟨T5, L5, k5, n5⟩, -, X5, ⟨Lc5, hQ5, l5, y5, z5⟩, st5⟩ := X4.privateBack hx (y := (⟨"java/util/ArrayList", "add", "(Ljava/lang/Object;[Ljava/lang/Object;I)V"⟩ : MethodName)) hown (mvT hZ (hw _ (List.mem_of_getElem? (i := 46) rfl))) (mvT hZ (hw _ (List.mem_of_getElem? (i := 47) rfl))) (mvT hZ (hw _ (List.mem_of_getElem? (i := 49) rfl))) (Cond.privateMethod_at (mvP hZ (hw _ (List.mem_of_getElem? (i := 48) rfl)) (args := #[]))) (mvT hZ (hw _ (List.mem_of_getElem? (i := 50) rfl))) (by decide) (backOf (W := 0) (own_addq2 l Z a0 hw [] a x ea vs h2 n0 O2  LL pm_ge_a pm_ge_ea f2_I_x) hZ (hw _ (List.mem_of_getElem? (i := 50) rfl)) (hw _ (List.mem_of_getElem? (i := 2) rfl)) (by decide) (by decide)) (g := (mkF m 20 #[.val (.ref a), .val (.ref x)] [(.int (2 : Int32)), (.ref ea), (.ref x), (.ref a)])) rfl (by rw [hml]; rfl) (Steps.refl _) (a := a) (by rw [e4]; exact q5) q5' (argsL := [(.ref x), (.ref ea), (.int (2 : Int32))]) (rest := []) (lenOf own_pd4 rfl) rfl (by show 2 * 0 + _ ≤ _; exact Nat.le_of_eq rfl) (hb hby own_d6_20) (fun _ _ => ⟨rfl, e4, (by decide : 0 + 0 ≤ _), (by decide : 0 + 0 ≤ _)⟩)
  dsimp only [Pt.U, Pt.locs, Pt.cells, Pt.slots] at X5 l5 y5 z5 st5 hQ5
  subst l5 y5 z5
  obtain ⟨rfl, N5q, O5, K5, p5_L_a⟩ := hQ5
  have N5 := Fr.app N2 N5q
  have f5_I_x := own_insKeep f2_I_x K5
  have KC5 := KC2.trans K5 (allS (Or.inl (List.mem_of_getElem? (i := 0) rfl)) (allS (Or.inl (List.mem_of_getElem? (i := 1) rfl)) all0))
  obtain ⟨fs, hr, hrun, hended, hW, hsame⟩ := X5.leave (v := some (.int (1 : Int32))) (fun h => by rw [Bd.returns] at h; cases h)
  refine ⟨_, _, pre0 _ ?_, hrun, hended, _, _, rfl, ?_, ⟨_, rfl⟩, hW, hsame.mono (by decide) (by decide)⟩
  · show Steps p.tables e below (s₁.setTop (mkF m 0 #[.val (.ref a), .val (.ref x)] [])) _
    refine XS.aloadN X0.here hx rfl (hb hby own_d6_0) rfl rfl ?_
    show Steps p.tables e below (s₁.setTop (mkF m 1 #[.val (.ref a), .val (.ref x)] [(.ref a)])) _
    refine XS.dup X0.here hx rfl (hb hby own_d6_1) rfl rfl ?_
    show Steps p.tables e below (s₁.setTop (mkF m 2 #[.val (.ref a), .val (.ref x)] [(.ref a), (.ref a)])) _
    refine st1 _ ?_
    show Steps p.tables e below (T1.setTop (mkF m 5 #[.val (.ref a), .val (.ref x)] [(.int mc), (.ref a)])) _
    refine XS.iconst X1.here hx rfl (hb hby own_d6_5) ?_
    show Steps p.tables e below (T1.setTop (mkF m 6 #[.val (.ref a), .val (.ref x)] [(.int (1 : Int32)), (.int mc), (.ref a)])) _
    refine XS.iadd X1.here hx rfl (hb hby own_d6_6) rfl ?_
    show Steps p.tables e below (T1.setTop (mkF m 7 #[.val (.ref a), .val (.ref x)] [(.int (mc + (1 : Int32))), (.ref a)])) _
    refine st2 _ ?_
    show Steps p.tables e below (T2.setTop (mkF m 10 #[.val (.ref a), .val (.ref x)] [])) _
    refine XS.aloadN X2.here hx rfl (hb hby own_d6_10) rfl rfl ?_
    show Steps p.tables e below (T2.setTop (mkF m 11 #[.val (.ref a), .val (.ref x)] [(.ref a)])) _
    refine XS.aloadN X2.here hx rfl (hb hby own_d6_11) rfl rfl ?_
    show Steps p.tables e below (T2.setTop (mkF m 12 #[.val (.ref a), .val (.ref x)] [(.ref x), (.ref a)])) _
    refine XS.aloadN X2.here hx rfl (hb hby own_d6_12) rfl rfl ?_
    show Steps p.tables e below (T2.setTop (mkF m 13 #[.val (.ref a), .val (.ref x)] [(.ref a), (.ref x), (.ref a)])) _
    refine st3 _ ?_
    show Steps p.tables e below (T3.setTop (mkF m 16 #[.val (.ref a), .val (.ref x)] [(.ref ea), (.ref x), (.ref a)])) _
    refine XS.aloadN X3.here hx rfl (hb hby own_d6_16) rfl rfl ?_
    show Steps p.tables e below (T3.setTop (mkF m 17 #[.val (.ref a), .val (.ref x)] [(.ref a), (.ref ea), (.ref x), (.ref a)])) _
    refine st4 _ ?_
    show Steps p.tables e below (T4.setTop (mkF m 20 #[.val (.ref a), .val (.ref x)] [(.int (2 : Int32)), (.ref ea), (.ref x), (.ref a)])) _
    refine st5.trans ?_
    show Steps p.tables e below (T5.setTop (mkF m 23 #[.val (.ref a), .val (.ref x)] [])) _
    refine XS.iconst X5.here hx rfl (hb hby own_d6_23) ?_
    show Steps p.tables e below (T5.setTop (mkF m 24 #[.val (.ref a), .val (.ref x)] [(.int (1 : Int32))])) _
    exact retN X5 hx (t := .boolean) Bd.returns (by simp) (hb hby own_d6_24) hr
  · show own_Q_addm2 Z a x ea vs h0 n0 _ T5.heap _
    exact ⟨rfl, N5, O5, KC5, p5_L_a⟩
theorem own_d16_0 : decode jdk_41_method_11_code 0 = .ok (.iload_n 0, 1) := by decide +kernel
theorem own_d16_1 : decode jdk_41_method_11_code 1 = .ok (.ifCond .lt 8, 3) := by decide +kernel
theorem own_d16_4 : decode jdk_41_method_11_code 4 = .ok (.iload_n 0, 1) := by decide +kernel
theorem own_d16_5 : decode jdk_41_method_11_code 5 = .ok (.iload_n 1, 1) := by decide +kernel
theorem own_d16_6 : decode jdk_41_method_11_code 6 = .ok (.if_icmp .lt 10, 3) := by decide +kernel
theorem own_d16_16 : decode jdk_41_method_11_code 16 = .ok (.iload_n 0, 1) := by decide +kernel
theorem own_d16_17 : decode jdk_41_method_11_code 17 = .ok (.ireturn, 1) := by decide +kernel
def own_Q_pci1 (Z : State)  (h0 : Heap) (n0 : Nat) (vv_ : Option Value) (hh_ : Heap) (LL_ : List Loc) : Prop := vv_ = some (.int (0 : Int32)) ∧ LL_ = [] ∧ hh_ = h0
theorem own_ef16__n (m : MethodId) (x0 : Int32) (x1 : Int32) : entryFrame m #[(.int x0), (.int x1), .null] 3 = mkF m 0 #[.val (.int x0), .val (.int x1), .val .null] [] := by first | (simp [entryFrame, mkF, argsToLocals, Value.category]; done) | rfl
theorem own_pn3 : plainName "jdk/internal/util/Preconditions" = true := by first | (simp [plainName, overriddenIn]; done) | decide +kernel
set_option maxRecDepth 65536 in
set_option maxHeartbeats 40000000 in
theorem own_pci1 (l : Launch) (Z : State) (a0 : Array Value) (hw : ∀ d ∈ tables_1, d.before a0 Z = true) (ws : List Jvm.Cond)  (h0 : Heap) (n0 : Nat) (O0 : Old Z n0 h0)   :
    MetFree l (⟨"jdk/internal/util/Preconditions", "checkIndex", "(IILjava/util/function/BiFunction;)I"⟩ : MethodName) (head1 (Jvm.Cond.code (⟨"jdk/internal/util/Preconditions", "checkIndex", "(IILjava/util/function/BiFunction;)I"⟩ : MethodName) jdk_41_method_11_code 3 (some .int) :: ws) ({ frames := 0, cells := 0, slots := 0, locals := 0 } : Room)) (fun aa_ U_ => aa_ = #[(.int (0 : Int32)), (.int (1 : Int32)), .null] ∧ Z.Warmed39 U_.vm ∧ U_.heap = h0) (fun _ _ _ _ _ => True) (fun _ U_ oo_ UU_ => ∃ vv_ LL_, oo_ = .returned vv_ ∧ own_Q_pci1 Z  h0 n0 vv_ UU_.heap LL_ ∧ FrameEnd U_ oo_ UU_ LL_ ({ frames := 0, cells := 0, slots := 0, locals := 0 } : Room).cells ({ frames := 0, cells := 0, slots := 0, locals := 0 } : Room).slots) := by
  refine MetFree.of_bodySF (plainFor_of_name own_pn3) hisR ?_
  intro p e s m args below meth c s₁ Bd hml0 hP hK
  obtain ⟨rfl, hZ, hh⟩ := hP
  have hx := Bd.exec
  have hby := Bd.bytes
  have hml : c.maxLocals = 3 := hml0
  have hown : s.vm.findClass "jdk/internal/util/Preconditions" = some m.cls := findClass_of_methodNamed Bd.named
  have hnm := (name_of_methodNamed Bd.named Bd.method).1
  have X0 : Stand p l e ({ frames := 0, cells := 0, slots := 0, locals := 0 } : Room) s m #[(.int (0 : Int32)), (.int (1 : Int32)), .null] below meth c s₁ [] 0 0 := Stand.of_body Bd
  have e0 : s₁.heap = h0 := by rw [← hh, Bd.state]; rfl
  have N0 := Fr.nil n0
  have pre0 : ∀ tt_, Steps p.tables e below (s₁.setTop (mkF m 0 #[.val (.int (0 : Int32)), .val (.int (1 : Int32)), .val .null] [])) tt_ → Steps p.tables e below (s₁.setTop (entryFrame m #[(.int (0 : Int32)), (.int (1 : Int32)), .null] 3)) tt_ := fun tt_ kk_ => castTop (own_ef16__n m (0 : Int32) (1 : Int32)) kk_
  obtain ⟨fs, hr, hrun, hended, hW, hsame⟩ := X0.leave (v := some (.int (0 : Int32))) (fun h => by rw [Bd.returns] at h; cases h)
  refine ⟨_, _, pre0 _ ?_, hrun, hended, _, _, rfl, ?_, ⟨_, rfl⟩, hW, hsame.mono (by decide) (by decide)⟩
  · show Steps p.tables e below (s₁.setTop (mkF m 0 #[.val (.int (0 : Int32)), .val (.int (1 : Int32)), .val .null] [])) _
    refine XS.iloadN X0.here hx rfl (hb hby own_d16_0) rfl ?_
    show Steps p.tables e below (s₁.setTop (mkF m 1 #[.val (.int (0 : Int32)), .val (.int (1 : Int32)), .val .null] [(.int (0 : Int32))])) _
    refine XS.ifNo X0.here hx rfl (hb hby own_d16_1) rfl ((if0 _ _).trans (flt (by decide : ¬ ((0 : Int32) < (0 : Int32)))).1) ?_
    show Steps p.tables e below (s₁.setTop (mkF m 4 #[.val (.int (0 : Int32)), .val (.int (1 : Int32)), .val .null] [])) _
    refine XS.iloadN X0.here hx rfl (hb hby own_d16_4) rfl ?_
    show Steps p.tables e below (s₁.setTop (mkF m 5 #[.val (.int (0 : Int32)), .val (.int (1 : Int32)), .val .null] [(.int (0 : Int32))])) _
    refine XS.iloadN X0.here hx rfl (hb hby own_d16_5) rfl ?_
    show Steps p.tables e below (s₁.setTop (mkF m 6 #[.val (.int (0 : Int32)), .val (.int (1 : Int32)), .val .null] [(.int (1 : Int32)), (.int (0 : Int32))])) _
    refine XS.icmpYes X0.here hx rfl (pc0 := 6) (pc' := 16) rfl (hb hby own_d16_6) rfl (tlt (by decide : (0 : Int32) < (1 : Int32))).1 (by decide) (by decide) ?_
    show Steps p.tables e below (s₁.setTop (mkF m 16 #[.val (.int (0 : Int32)), .val (.int (1 : Int32)), .val .null] [])) _
    refine XS.iloadN X0.here hx rfl (hb hby own_d16_16) rfl ?_
    show Steps p.tables e below (s₁.setTop (mkF m 17 #[.val (.int (0 : Int32)), .val (.int (1 : Int32)), .val .null] [(.int (0 : Int32))])) _
    exact retI X0 hx Bd.returns (hb hby own_d16_17) hr
  · show own_Q_pci1 Z  h0 n0 _ s₁.heap _
    rw [e0]
    exact ⟨rfl, rfl, rfl⟩
theorem own_d15_0 : decode jdk_31_method_17_code 0 = .ok (.iload_n 0, 1) := by decide +kernel
theorem own_d15_1 : decode jdk_31_method_17_code 1 = .ok (.iload_n 1, 1) := by decide +kernel
theorem own_d15_2 : decode jdk_31_method_17_code 2 = .ok (.aconst_null, 1) := by decide +kernel
theorem own_d15_3 : decode jdk_31_method_17_code 3 = .ok (.invokestatic 105, 3) := by decide +kernel
theorem own_pd5 : parseMethodDescriptor "(IILjava/util/function/BiFunction;)I" = some ⟨[.int, .int, (.object "java/util/function/BiFunction")], some .int⟩ := by decide +kernel
theorem own_d15_6 : decode jdk_31_method_17_code 6 = .ok (.ireturn, 1) := by decide +kernel
def own_Q_oci1 (Z : State)  (h0 : Heap) (n0 : Nat) (vv_ : Option Value) (hh_ : Heap) (LL_ : List Loc) : Prop := vv_ = some (.int (0 : Int32)) ∧ LL_ = [] ∧ hh_ = h0
theorem own_ef15 (m : MethodId) (x0 : Int32) (x1 : Int32) : entryFrame m #[(.int x0), (.int x1)] 2 = mkF m 0 #[.val (.int x0), .val (.int x1)] [] := by first | (simp [entryFrame, mkF, argsToLocals, Value.category]; done) | rfl
theorem own_pn4 : plainName "java/util/Objects" = true := by first | (simp [plainName, overriddenIn]; done) | decide +kernel
set_option maxRecDepth 65536 in
set_option maxHeartbeats 40000000 in
theorem own_oci1 (l : Launch) (Z : State) (a0 : Array Value) (hw : ∀ d ∈ tables_1, d.before a0 Z = true) (ws : List Jvm.Cond)  (h0 : Heap) (n0 : Nat) (O0 : Old Z n0 h0)   :
    MetFree l (⟨"java/util/Objects", "checkIndex", "(II)I"⟩ : MethodName) (head1 (Jvm.Cond.code (⟨"java/util/Objects", "checkIndex", "(II)I"⟩ : MethodName) jdk_31_method_17_code 2 (some .int) :: ws) ({ frames := 1, cells := 0, slots := 0, locals := 14 } : Room)) (fun aa_ U_ => aa_ = #[(.int (0 : Int32)), (.int (1 : Int32))] ∧ Z.Warmed39 U_.vm ∧ U_.heap = h0) (fun _ _ _ _ _ => True) (fun _ U_ oo_ UU_ => ∃ vv_ LL_, oo_ = .returned vv_ ∧ own_Q_oci1 Z  h0 n0 vv_ UU_.heap LL_ ∧ FrameEnd U_ oo_ UU_ LL_ ({ frames := 1, cells := 0, slots := 0, locals := 14 } : Room).cells ({ frames := 1, cells := 0, slots := 0, locals := 14 } : Room).slots) := by
  refine MetFree.of_bodySF (plainFor_of_name own_pn4) hisR ?_
  intro p e s m args below meth c s₁ Bd hml0 hP hK
  obtain ⟨rfl, hZ, hh⟩ := hP
  have hx := Bd.exec
  have hby := Bd.bytes
  have hml : c.maxLocals = 2 := hml0
  have hown : s.vm.findClass "java/util/Objects" = some m.cls := findClass_of_methodNamed Bd.named
  have hnm := (name_of_methodNamed Bd.named Bd.method).1
  have X0 : Stand p l e ({ frames := 1, cells := 0, slots := 0, locals := 14 } : Room) s m #[(.int (0 : Int32)), (.int (1 : Int32))] below meth c s₁ [] 0 0 := Stand.of_body Bd
  have e0 : s₁.heap = h0 := by rw [← hh, Bd.state]; rfl
  have N0 := Fr.nil n0
  have pre0 : ∀ tt_, Steps p.tables e below (s₁.setTop (mkF m 0 #[.val (.int (0 : Int32)), .val (.int (1 : Int32))] [])) tt_ → Steps p.tables e below (s₁.setTop (entryFrame m #[(.int (0 : Int32)), (.int (1 : Int32))] 2)) tt_ := fun tt_ kk_ => castTop (own_ef15 m (0 : Int32) (1 : Int32)) kk_
  obtain ⟨_, _, ⟨T1, L1, k1, n1⟩, -, X1, ⟨Lc1, hQ1, l1, y1, z1⟩, st1⟩ := Jvm.LawKit.callS X0 hx (y := (⟨"jdk/internal/util/Preconditions", "checkIndex", "(IILjava/util/function/BiFunction;)I"⟩ : MethodName)) hown (mvT hZ (hw _ (List.mem_of_getElem? (i := 128) rfl))) (mvT hZ (hw _ (List.mem_of_getElem? (i := 129) rfl))) (mvT hZ (hw _ (List.mem_of_getElem? (i := 130) rfl))) (mvT hZ (hw _ (List.mem_of_getElem? (i := 131) rfl))) (by decide) (backOf (W := 0) (own_pci1 l Z a0 hw []  h0 n0 O0  ) hZ (hw _ (List.mem_of_getElem? (i := 131) rfl)) (hw _ (List.mem_of_getElem? (i := 130) rfl)) (by decide) (by decide)) (g := (mkF m 3 #[.val (.int (0 : Int32)), .val (.int (1 : Int32))] [.null, (.int (1 : Int32)), (.int (0 : Int32))])) rfl (by rw [hml]; rfl) (argsL := [(.int (0 : Int32)), (.int (1 : Int32)), .null]) (rest := []) (lenOf own_pd5 rfl) rfl (by show 2 * 0 + _ ≤ _; exact Nat.le_of_eq rfl) (hb hby own_d15_3) (fun _ _ => ⟨rfl, e0, (by decide : 0 + 0 ≤ _), (by decide : 0 + 0 ≤ _)⟩)
  dsimp only [Pt.U, Pt.locs, Pt.cells, Pt.slots] at X1 l1 y1 z1 st1 hQ1
  subst l1 y1 z1
  obtain ⟨rfl, rfl, e1⟩ := hQ1
  try rw [List.append_nil] at X1
  obtain ⟨fs, hr, hrun, hended, hW, hsame⟩ := X1.leave (v := some (.int (0 : Int32))) (fun h => by rw [Bd.returns] at h; cases h)
  refine ⟨_, _, pre0 _ ?_, hrun, hended, _, _, rfl, ?_, ⟨_, rfl⟩, hW, hsame.mono (by decide) (by decide)⟩
  · show Steps p.tables e below (s₁.setTop (mkF m 0 #[.val (.int (0 : Int32)), .val (.int (1 : Int32))] [])) _
    refine XS.iloadN X0.here hx rfl (hb hby own_d15_0) rfl ?_
    show Steps p.tables e below (s₁.setTop (mkF m 1 #[.val (.int (0 : Int32)), .val (.int (1 : Int32))] [(.int (0 : Int32))])) _
    refine XS.iloadN X0.here hx rfl (hb hby own_d15_1) rfl ?_
    show Steps p.tables e below (s₁.setTop (mkF m 2 #[.val (.int (0 : Int32)), .val (.int (1 : Int32))] [(.int (1 : Int32)), (.int (0 : Int32))])) _
    refine XS.aconstNull X0.here hx rfl (hb hby own_d15_2) ?_
    show Steps p.tables e below (s₁.setTop (mkF m 3 #[.val (.int (0 : Int32)), .val (.int (1 : Int32))] [.null, (.int (1 : Int32)), (.int (0 : Int32))])) _
    refine st1 _ ?_
    show Steps p.tables e below (T1.setTop (mkF m 6 #[.val (.int (0 : Int32)), .val (.int (1 : Int32))] [(.int (0 : Int32))])) _
    exact retI X1 hx Bd.returns (hb hby own_d15_6) hr
  · show own_Q_oci1 Z  h0 n0 _ T1.heap _
    rw [e1]
    exact ⟨rfl, rfl, rfl⟩
theorem own_d17_0 : decode jdk_38_method_18_code 0 = .ok (.aload_n 0, 1) := by decide +kernel
theorem own_d17_1 : decode jdk_38_method_18_code 1 = .ok (.getfield 9, 3) := by decide +kernel
theorem own_d17_4 : decode jdk_38_method_18_code 4 = .ok (.iload_n 1, 1) := by decide +kernel
theorem own_d17_5 : decode jdk_38_method_18_code 5 = .ok (.aaload, 1) := by decide +kernel
theorem own_d17_6 : decode jdk_38_method_18_code 6 = .ok (.areturn, 1) := by decide +kernel
def own_Q_ed1 (Z : State) (a : Addr) (x : Addr) (ea : Addr) (vs : Nat → Value) (h0 : Heap) (n0 : Nat) (vv_ : Option Value) (hh_ : Heap) (LL_ : List Loc) : Prop := vv_ = some (.ref x) ∧ LL_ = [] ∧ hh_ = h0
theorem own_ef17 (m : MethodId) (x0 : Addr) (x1 : Int32) : entryFrame m #[(.ref x0), (.int x1)] 2 = mkF m 0 #[.val (.ref x0), .val (.int x1)] [] := by first | (simp [entryFrame, mkF, argsToLocals, Value.category]; done) | rfl
set_option maxRecDepth 65536 in
set_option maxHeartbeats 40000000 in
theorem own_ed1 (l : Launch) (Z : State) (a0 : Array Value) (hw : ∀ d ∈ tables_1, d.before a0 Z = true) (ws : List Jvm.Cond) (a : Addr) (x : Addr) (ea : Addr) (vs : Nat → Value) (h0 : Heap) (n0 : Nat) (O0 : Old Z n0 h0)  (pm_L_a : own_AL Z h0 a ea (1 : Int32) vs) (hv0 : vs 0 = .ref x) :
    MetFree l (⟨"java/util/ArrayList", "elementData", "(I)Ljava/lang/Object;"⟩ : MethodName) (head1 (Jvm.Cond.code (⟨"java/util/ArrayList", "elementData", "(I)Ljava/lang/Object;"⟩ : MethodName) jdk_38_method_18_code 2 (some (.object "java/lang/Object")) :: ws) ({ frames := 0, cells := 0, slots := 0, locals := 0 } : Room)) (fun aa_ U_ => aa_ = #[(.ref a), (.int (0 : Int32))] ∧ Z.Warmed39 U_.vm ∧ U_.heap = h0) (fun _ _ _ _ _ => True) (fun _ U_ oo_ UU_ => ∃ vv_ LL_, oo_ = .returned vv_ ∧ own_Q_ed1 Z a x ea vs h0 n0 vv_ UU_.heap LL_ ∧ FrameEnd U_ oo_ UU_ LL_ ({ frames := 0, cells := 0, slots := 0, locals := 0 } : Room).cells ({ frames := 0, cells := 0, slots := 0, locals := 0 } : Room).slots) := by
  obtain ⟨gE, ⟨mc, gM⟩, gD, gS, ⟨cE, aE, oE, zE, vE⟩, gne⟩ := pm_L_a
  refine MetFree.of_bodySF (plainFor_of_name own_pn2) hisR ?_
  intro p e s m args below meth c s₁ Bd hml0 hP hK
  obtain ⟨rfl, hZ, hh⟩ := hP
  have hx := Bd.exec
  have hby := Bd.bytes
  have hml : c.maxLocals = 2 := hml0
  have hown : s.vm.findClass "java/util/ArrayList" = some m.cls := findClass_of_methodNamed Bd.named
  have hnm := (name_of_methodNamed Bd.named Bd.method).1
  have X0 : Stand p l e ({ frames := 0, cells := 0, slots := 0, locals := 0 } : Room) s m #[(.ref a), (.int (0 : Int32))] below meth c s₁ [] 0 0 := Stand.of_body Bd
  have e0 : s₁.heap = h0 := by rw [← hh, Bd.state]; rfl
  have N0 := Fr.nil n0
  have pre0 : ∀ tt_, Steps p.tables e below (s₁.setTop (mkF m 0 #[.val (.ref a), .val (.int (0 : Int32))] [])) tt_ → Steps p.tables e below (s₁.setTop (entryFrame m #[(.ref a), (.int (0 : Int32))] 2)) tt_ := fun tt_ kk_ => castTop (own_ef17 m a (0 : Int32)) kk_
  obtain ⟨T1, X1, e1, st1⟩ := getF X0 hx hZ hown (host := "") (Or.inl (hw _ (List.mem_of_getElem? (i := 24) rfl))) Via.refl e0 gD (g := (mkF m 1 #[.val (.ref a), .val (.int (0 : Int32))] [(.ref a)])) rfl rfl (hb hby own_d17_1)
  have hin : ¬ ((0 : Int32) < 0 ∨ cE.slots.size ≤ (0 : Int32).toNatClampNeg) := by rw [zE]; decide
  have hat : cE.slots[(0 : Int32).toNatClampNeg]? = some (.ref x) := by rw [← hv0]; exact vE 0 (by decide)
  obtain ⟨fs, hr, hrun, hended, hW, hsame⟩ := X1.leave (v := some (.ref x)) (fun h => by rw [Bd.returns] at h; cases h)
  refine ⟨_, _, pre0 _ ?_, hrun, hended, _, _, rfl, ?_, ⟨_, rfl⟩, hW, hsame.mono (by decide) (by decide)⟩
  · show Steps p.tables e below (s₁.setTop (mkF m 0 #[.val (.ref a), .val (.int (0 : Int32))] [])) _
    refine XS.aloadN X0.here hx rfl (hb hby own_d17_0) rfl rfl ?_
    show Steps p.tables e below (s₁.setTop (mkF m 1 #[.val (.ref a), .val (.int (0 : Int32))] [(.ref a)])) _
    refine st1 _ ?_
    show Steps p.tables e below (T1.setTop (mkF m 4 #[.val (.ref a), .val (.int (0 : Int32))] [(.ref ea)])) _
    refine XS.iloadN X1.here hx rfl (hb hby own_d17_4) rfl ?_
    show Steps p.tables e below (T1.setTop (mkF m 5 #[.val (.ref a), .val (.int (0 : Int32))] [(.int (0 : Int32)), (.ref ea)])) _
    refine X1.aaload hx (j := (0 : Int32)) (v := (.ref x)) (ty := (.object "java/lang/Object")) (by rw [e1]; exact aE.1) (State.isArrayOf_alike hZ.alike aE.2.1) rfl aE.2.2 hin hat (g := (mkF m 5 #[.val (.ref a), .val (.int (0 : Int32))] [(.int (0 : Int32)), (.ref ea)])) rfl rfl (hb hby own_d17_5) _ ?_
    show Steps p.tables e below (T1.setTop (mkF m 6 #[.val (.ref a), .val (.int (0 : Int32))] [(.ref x)])) _
    jvm_step X1.here [X1.here.top, hx, (hb hby own_d17_6), X1.method', Bd.returns, Value.isRef, FieldType.isReference]
    first | (intro acts; rw [hr _ acts rfl rfl rfl]) | rw [hr _ _ rfl rfl rfl]
    exact Steps.refl _
  · show own_Q_ed1 Z a x ea vs h0 n0 _ T1.heap _
    rw [e1]
    exact ⟨rfl, rfl, rfl⟩
theorem own_d14_0 : decode jdk_38_method_20_code 0 = .ok (.iload_n 1, 1) := by decide +kernel
theorem own_d14_1 : decode jdk_38_method_20_code 1 = .ok (.aload_n 0, 1) := by decide +kernel
theorem own_d14_2 : decode jdk_38_method_20_code 2 = .ok (.getfield 48, 3) := by decide +kernel
theorem own_d14_5 : decode jdk_38_method_20_code 5 = .ok (.invokestatic 118, 3) := by decide +kernel
theorem own_d14_8 : decode jdk_38_method_20_code 8 = .ok (.pop, 1) := by decide +kernel
theorem own_d14_9 : decode jdk_38_method_20_code 9 = .ok (.aload_n 0, 1) := by decide +kernel
theorem own_d14_10 : decode jdk_38_method_20_code 10 = .ok (.iload_n 1, 1) := by decide +kernel
theorem own_d14_11 : decode jdk_38_method_20_code 11 = .ok (.invokevirtual 123, 3) := by decide +kernel
theorem own_pd6 : parseMethodDescriptor "(I)Ljava/lang/Object;" = some ⟨[.int], some (.object "java/lang/Object")⟩ := by decide +kernel
theorem own_d14_14 : decode jdk_38_method_20_code 14 = .ok (.areturn, 1) := by decide +kernel
def own_Q_get1 (Z : State) (a : Addr) (x : Addr) (ea : Addr) (vs : Nat → Value) (h0 : Heap) (n0 : Nat) (vv_ : Option Value) (hh_ : Heap) (LL_ : List Loc) : Prop := vv_ = some (.ref x) ∧ LL_ = [] ∧ hh_ = h0
theorem own_ef14 (m : MethodId) (x0 : Addr) (x1 : Int32) : entryFrame m #[(.ref x0), (.int x1)] 2 = mkF m 0 #[.val (.ref x0), .val (.int x1)] [] := by first | (simp [entryFrame, mkF, argsToLocals, Value.category]; done) | rfl
set_option maxRecDepth 65536 in
set_option maxHeartbeats 40000000 in
theorem own_get1 (l : Launch) (Z : State) (a0 : Array Value) (hw : ∀ d ∈ tables_1, d.before a0 Z = true) (ws : List Jvm.Cond) (a : Addr) (x : Addr) (ea : Addr) (vs : Nat → Value) (h0 : Heap) (n0 : Nat) (O0 : Old Z n0 h0)  (pm_L_a : own_AL Z h0 a ea (1 : Int32) vs) (hv0 : vs 0 = .ref x) :
    MetFree l (⟨"java/util/ArrayList", "get", "(I)Ljava/lang/Object;"⟩ : MethodName) (head1 (Jvm.Cond.code (⟨"java/util/ArrayList", "get", "(I)Ljava/lang/Object;"⟩ : MethodName) jdk_38_method_20_code 2 (some (.object "java/lang/Object")) :: ws) ({ frames := 2, cells := 0, slots := 0, locals := 27 } : Room)) (fun aa_ U_ => aa_ = #[(.ref a), (.int (0 : Int32))] ∧ Z.Warmed39 U_.vm ∧ U_.heap = h0) (fun _ _ _ _ _ => True) (fun _ U_ oo_ UU_ => ∃ vv_ LL_, oo_ = .returned vv_ ∧ own_Q_get1 Z a x ea vs h0 n0 vv_ UU_.heap LL_ ∧ FrameEnd U_ oo_ UU_ LL_ ({ frames := 2, cells := 0, slots := 0, locals := 27 } : Room).cells ({ frames := 2, cells := 0, slots := 0, locals := 27 } : Room).slots) := by
  refine MetFree.of_bodySF (plainFor_of_name own_pn2) hisR ?_
  intro p e s m args below meth c s₁ Bd hml0 hP hK
  obtain ⟨rfl, hZ, hh⟩ := hP
  have hx := Bd.exec
  have hby := Bd.bytes
  have hml : c.maxLocals = 2 := hml0
  have hown : s.vm.findClass "java/util/ArrayList" = some m.cls := findClass_of_methodNamed Bd.named
  have hnm := (name_of_methodNamed Bd.named Bd.method).1
  have X0 : Stand p l e ({ frames := 2, cells := 0, slots := 0, locals := 27 } : Room) s m #[(.ref a), (.int (0 : Int32))] below meth c s₁ [] 0 0 := Stand.of_body Bd
  have e0 : s₁.heap = h0 := by rw [← hh, Bd.state]; rfl
  have N0 := Fr.nil n0
  have pre0 : ∀ tt_, Steps p.tables e below (s₁.setTop (mkF m 0 #[.val (.ref a), .val (.int (0 : Int32))] [])) tt_ → Steps p.tables e below (s₁.setTop (entryFrame m #[(.ref a), (.int (0 : Int32))] 2)) tt_ := fun tt_ kk_ => castTop (own_ef14 m a (0 : Int32)) kk_
  obtain ⟨T1, X1, e1, st1⟩ := getF X0 hx hZ hown (host := "") (Or.inl (hw _ (List.mem_of_getElem? (i := 44) rfl))) Via.refl e0 pm_L_a.2.2.2.1 (g := (mkF m 2 #[.val (.ref a), .val (.int (0 : Int32))] [(.ref a), (.int (0 : Int32))])) rfl rfl (hb hby own_d14_2)
  obtain ⟨_, _, ⟨T2, L2, k2, n2⟩, -, X2, ⟨Lc2, hQ2, l2, y2, z2⟩, st2⟩ := Jvm.LawKit.callS X1 hx (y := (⟨"java/util/Objects", "checkIndex", "(II)I"⟩ : MethodName)) hown (mvT hZ (hw _ (List.mem_of_getElem? (i := 124) rfl))) (mvT hZ (hw _ (List.mem_of_getElem? (i := 125) rfl))) (mvT hZ (hw _ (List.mem_of_getElem? (i := 126) rfl))) (mvT hZ (hw _ (List.mem_of_getElem? (i := 127) rfl))) (by decide) (backOf (W := 0) (own_oci1 l Z a0 hw []  h0 n0 O0  ) hZ (hw _ (List.mem_of_getElem? (i := 127) rfl)) (hw _ (List.mem_of_getElem? (i := 126) rfl)) (by decide) (by decide)) (g := (mkF m 5 #[.val (.ref a), .val (.int (0 : Int32))] [(.int (1 : Int32)), (.int (0 : Int32))])) rfl (by rw [hml]; rfl) (argsL := [(.int (0 : Int32)), (.int (1 : Int32))]) (rest := []) (lenOf own_pd1 rfl) rfl (by show 2 * 0 + _ ≤ _; exact Nat.le_of_eq rfl) (hb hby own_d14_5) (fun _ _ => ⟨rfl, e1, (by decide : 0 + 0 ≤ _), (by decide : 0 + 0 ≤ _)⟩)
  dsimp only [Pt.U, Pt.locs, Pt.cells, Pt.slots] at X2 l2 y2 z2 st2 hQ2
  subst l2 y2 z2
  obtain ⟨rfl, rfl, e2⟩ := hQ2
  try rw [List.append_nil] at X2
  obtain ⟨cq3, kq3, q3a, q3b, q3c⟩ := isOf hZ e2 pm_L_a.1
  obtain ⟨_, _, ⟨T3, L3, k3, n3⟩, -, X3, ⟨Lc3, hQ3, l3, y3, z3⟩, st3⟩ := X2.virtualBack hx (y := (⟨"java/util/ArrayList", "elementData", "(I)Ljava/lang/Object;"⟩ : MethodName)) (z := (⟨"java/util/ArrayList", "elementData", "(I)Ljava/lang/Object;"⟩ : MethodName)) hown (mvT hZ (hw _ (List.mem_of_getElem? (i := 132) rfl))) (mvT hZ (hw _ (List.mem_of_getElem? (i := 133) rfl))) (notFace_of_selects (args := #[]) (mvT hZ (hw _ (List.mem_of_getElem? (i := 135) rfl)))) (mvT hZ (hw _ (List.mem_of_getElem? (i := 135) rfl))) (mvT hZ (hw _ (List.mem_of_getElem? (i := 134) rfl))) (by decide) (backOf (W := 0) (own_ed1 l Z a0 hw [] a x ea vs h0 n0 O0  pm_L_a hv0) hZ (hw _ (List.mem_of_getElem? (i := 136) rfl)) (hw _ (List.mem_of_getElem? (i := 2) rfl)) (by decide) (by decide)) q3a q3c (g := (mkF m 11 #[.val (.ref a), .val (.int (0 : Int32))] [(.int (0 : Int32)), (.ref a)])) rfl (by rw [hml]; rfl) (Steps.refl _) (argsL := [(.int (0 : Int32))]) (rest := []) (lenOf own_pd6 rfl) rfl (by show 2 * 0 + _ ≤ _; exact Nat.le_of_eq rfl) (hb hby own_d14_11) (fun _ _ => ⟨rfl, e2, (by decide : 0 + 0 ≤ _), (by decide : 0 + 0 ≤ _)⟩)
  dsimp only [Pt.U, Pt.locs, Pt.cells, Pt.slots] at X3 l3 y3 z3 st3 hQ3
  subst l3 y3 z3
  obtain ⟨rfl, rfl, e3⟩ := hQ3
  try rw [List.append_nil] at X3
  obtain ⟨fs, hr, hrun, hended, hW, hsame⟩ := X3.leave (v := some (.ref x)) (fun h => by rw [Bd.returns] at h; cases h)
  refine ⟨_, _, pre0 _ ?_, hrun, hended, _, _, rfl, ?_, ⟨_, rfl⟩, hW, hsame.mono (by decide) (by decide)⟩
  · show Steps p.tables e below (s₁.setTop (mkF m 0 #[.val (.ref a), .val (.int (0 : Int32))] [])) _
    refine XS.iloadN X0.here hx rfl (hb hby own_d14_0) rfl ?_
    show Steps p.tables e below (s₁.setTop (mkF m 1 #[.val (.ref a), .val (.int (0 : Int32))] [(.int (0 : Int32))])) _
    refine XS.aloadN X0.here hx rfl (hb hby own_d14_1) rfl rfl ?_
    show Steps p.tables e below (s₁.setTop (mkF m 2 #[.val (.ref a), .val (.int (0 : Int32))] [(.ref a), (.int (0 : Int32))])) _
    refine st1 _ ?_
    show Steps p.tables e below (T1.setTop (mkF m 5 #[.val (.ref a), .val (.int (0 : Int32))] [(.int (1 : Int32)), (.int (0 : Int32))])) _
    refine st2 _ ?_
    show Steps p.tables e below (T2.setTop (mkF m 8 #[.val (.ref a), .val (.int (0 : Int32))] [(.int (0 : Int32))])) _
    refine XS.pop X2.here hx rfl (hb hby own_d14_8) rfl rfl ?_
    show Steps p.tables e below (T2.setTop (mkF m 9 #[.val (.ref a), .val (.int (0 : Int32))] [])) _
    refine XS.aloadN X2.here hx rfl (hb hby own_d14_9) rfl rfl ?_
    show Steps p.tables e below (T2.setTop (mkF m 10 #[.val (.ref a), .val (.int (0 : Int32))] [(.ref a)])) _
    refine XS.iloadN X2.here hx rfl (hb hby own_d14_10) rfl ?_
    show Steps p.tables e below (T2.setTop (mkF m 11 #[.val (.ref a), .val (.int (0 : Int32))] [(.int (0 : Int32)), (.ref a)])) _
    refine st3.trans ?_
    show Steps p.tables e below (T3.setTop (mkF m 14 #[.val (.ref a), .val (.int (0 : Int32))] [(.ref x)])) _
    jvm_step X3.here [X3.here.top, hx, (hb hby own_d14_14), X3.method', Bd.returns, Value.isRef, FieldType.isReference]
    first | (intro acts; rw [hr _ acts rfl rfl rfl]) | rw [hr _ _ rfl rfl rfl]
    exact Steps.refl _
  · show own_Q_get1 Z a x ea vs h0 n0 _ T3.heap _
    rw [e3]
    exact ⟨rfl, rfl, rfl⟩
def own_Q_pci2 (Z : State)  (h0 : Heap) (n0 : Nat) (vv_ : Option Value) (hh_ : Heap) (LL_ : List Loc) : Prop := vv_ = some (.int (0 : Int32)) ∧ LL_ = [] ∧ hh_ = h0
set_option maxRecDepth 65536 in
set_option maxHeartbeats 40000000 in
theorem own_pci2 (l : Launch) (Z : State) (a0 : Array Value) (hw : ∀ d ∈ tables_1, d.before a0 Z = true) (ws : List Jvm.Cond)  (h0 : Heap) (n0 : Nat) (O0 : Old Z n0 h0)   :
    MetFree l (⟨"jdk/internal/util/Preconditions", "checkIndex", "(IILjava/util/function/BiFunction;)I"⟩ : MethodName) (head1 (Jvm.Cond.code (⟨"jdk/internal/util/Preconditions", "checkIndex", "(IILjava/util/function/BiFunction;)I"⟩ : MethodName) jdk_41_method_11_code 3 (some .int) :: ws) ({ frames := 0, cells := 0, slots := 0, locals := 0 } : Room)) (fun aa_ U_ => aa_ = #[(.int (0 : Int32)), (.int (2 : Int32)), .null] ∧ Z.Warmed39 U_.vm ∧ U_.heap = h0) (fun _ _ _ _ _ => True) (fun _ U_ oo_ UU_ => ∃ vv_ LL_, oo_ = .returned vv_ ∧ own_Q_pci2 Z  h0 n0 vv_ UU_.heap LL_ ∧ FrameEnd U_ oo_ UU_ LL_ ({ frames := 0, cells := 0, slots := 0, locals := 0 } : Room).cells ({ frames := 0, cells := 0, slots := 0, locals := 0 } : Room).slots) := by
  refine MetFree.of_bodySF (plainFor_of_name own_pn3) hisR ?_
  intro p e s m args below meth c s₁ Bd hml0 hP hK
  obtain ⟨rfl, hZ, hh⟩ := hP
  have hx := Bd.exec
  have hby := Bd.bytes
  have hml : c.maxLocals = 3 := hml0
  have hown : s.vm.findClass "jdk/internal/util/Preconditions" = some m.cls := findClass_of_methodNamed Bd.named
  have hnm := (name_of_methodNamed Bd.named Bd.method).1
  have X0 : Stand p l e ({ frames := 0, cells := 0, slots := 0, locals := 0 } : Room) s m #[(.int (0 : Int32)), (.int (2 : Int32)), .null] below meth c s₁ [] 0 0 := Stand.of_body Bd
  have e0 : s₁.heap = h0 := by rw [← hh, Bd.state]; rfl
  have N0 := Fr.nil n0
  have pre0 : ∀ tt_, Steps p.tables e below (s₁.setTop (mkF m 0 #[.val (.int (0 : Int32)), .val (.int (2 : Int32)), .val .null] [])) tt_ → Steps p.tables e below (s₁.setTop (entryFrame m #[(.int (0 : Int32)), (.int (2 : Int32)), .null] 3)) tt_ := fun tt_ kk_ => castTop (own_ef16__n m (0 : Int32) (2 : Int32)) kk_
  obtain ⟨fs, hr, hrun, hended, hW, hsame⟩ := X0.leave (v := some (.int (0 : Int32))) (fun h => by rw [Bd.returns] at h; cases h)
  refine ⟨_, _, pre0 _ ?_, hrun, hended, _, _, rfl, ?_, ⟨_, rfl⟩, hW, hsame.mono (by decide) (by decide)⟩
  · show Steps p.tables e below (s₁.setTop (mkF m 0 #[.val (.int (0 : Int32)), .val (.int (2 : Int32)), .val .null] [])) _
    refine XS.iloadN X0.here hx rfl (hb hby own_d16_0) rfl ?_
    show Steps p.tables e below (s₁.setTop (mkF m 1 #[.val (.int (0 : Int32)), .val (.int (2 : Int32)), .val .null] [(.int (0 : Int32))])) _
    refine XS.ifNo X0.here hx rfl (hb hby own_d16_1) rfl ((if0 _ _).trans (flt (by decide : ¬ ((0 : Int32) < (0 : Int32)))).1) ?_
    show Steps p.tables e below (s₁.setTop (mkF m 4 #[.val (.int (0 : Int32)), .val (.int (2 : Int32)), .val .null] [])) _
    refine XS.iloadN X0.here hx rfl (hb hby own_d16_4) rfl ?_
    show Steps p.tables e below (s₁.setTop (mkF m 5 #[.val (.int (0 : Int32)), .val (.int (2 : Int32)), .val .null] [(.int (0 : Int32))])) _
    refine XS.iloadN X0.here hx rfl (hb hby own_d16_5) rfl ?_
    show Steps p.tables e below (s₁.setTop (mkF m 6 #[.val (.int (0 : Int32)), .val (.int (2 : Int32)), .val .null] [(.int (2 : Int32)), (.int (0 : Int32))])) _
    refine XS.icmpYes X0.here hx rfl (pc0 := 6) (pc' := 16) rfl (hb hby own_d16_6) rfl (tlt (by decide : (0 : Int32) < (2 : Int32))).1 (by decide) (by decide) ?_
    show Steps p.tables e below (s₁.setTop (mkF m 16 #[.val (.int (0 : Int32)), .val (.int (2 : Int32)), .val .null] [])) _
    refine XS.iloadN X0.here hx rfl (hb hby own_d16_16) rfl ?_
    show Steps p.tables e below (s₁.setTop (mkF m 17 #[.val (.int (0 : Int32)), .val (.int (2 : Int32)), .val .null] [(.int (0 : Int32))])) _
    exact retI X0 hx Bd.returns (hb hby own_d16_17) hr
  · show own_Q_pci2 Z  h0 n0 _ s₁.heap _
    rw [e0]
    exact ⟨rfl, rfl, rfl⟩
def own_Q_oci2 (Z : State)  (h0 : Heap) (n0 : Nat) (vv_ : Option Value) (hh_ : Heap) (LL_ : List Loc) : Prop := vv_ = some (.int (0 : Int32)) ∧ LL_ = [] ∧ hh_ = h0
set_option maxRecDepth 65536 in
set_option maxHeartbeats 40000000 in
theorem own_oci2 (l : Launch) (Z : State) (a0 : Array Value) (hw : ∀ d ∈ tables_1, d.before a0 Z = true) (ws : List Jvm.Cond)  (h0 : Heap) (n0 : Nat) (O0 : Old Z n0 h0)   :
    MetFree l (⟨"java/util/Objects", "checkIndex", "(II)I"⟩ : MethodName) (head1 (Jvm.Cond.code (⟨"java/util/Objects", "checkIndex", "(II)I"⟩ : MethodName) jdk_31_method_17_code 2 (some .int) :: ws) ({ frames := 1, cells := 0, slots := 0, locals := 14 } : Room)) (fun aa_ U_ => aa_ = #[(.int (0 : Int32)), (.int (2 : Int32))] ∧ Z.Warmed39 U_.vm ∧ U_.heap = h0) (fun _ _ _ _ _ => True) (fun _ U_ oo_ UU_ => ∃ vv_ LL_, oo_ = .returned vv_ ∧ own_Q_oci2 Z  h0 n0 vv_ UU_.heap LL_ ∧ FrameEnd U_ oo_ UU_ LL_ ({ frames := 1, cells := 0, slots := 0, locals := 14 } : Room).cells ({ frames := 1, cells := 0, slots := 0, locals := 14 } : Room).slots) := by
  refine MetFree.of_bodySF (plainFor_of_name own_pn4) hisR ?_
  intro p e s m args below meth c s₁ Bd hml0 hP hK
  obtain ⟨rfl, hZ, hh⟩ := hP
  have hx := Bd.exec
  have hby := Bd.bytes
  have hml : c.maxLocals = 2 := hml0
  have hown : s.vm.findClass "java/util/Objects" = some m.cls := findClass_of_methodNamed Bd.named
  have hnm := (name_of_methodNamed Bd.named Bd.method).1
  have X0 : Stand p l e ({ frames := 1, cells := 0, slots := 0, locals := 14 } : Room) s m #[(.int (0 : Int32)), (.int (2 : Int32))] below meth c s₁ [] 0 0 := Stand.of_body Bd
  have e0 : s₁.heap = h0 := by rw [← hh, Bd.state]; rfl
  have N0 := Fr.nil n0
  have pre0 : ∀ tt_, Steps p.tables e below (s₁.setTop (mkF m 0 #[.val (.int (0 : Int32)), .val (.int (2 : Int32))] [])) tt_ → Steps p.tables e below (s₁.setTop (entryFrame m #[(.int (0 : Int32)), (.int (2 : Int32))] 2)) tt_ := fun tt_ kk_ => castTop (own_ef15 m (0 : Int32) (2 : Int32)) kk_
  obtain ⟨_, _, ⟨T1, L1, k1, n1⟩, -, X1, ⟨Lc1, hQ1, l1, y1, z1⟩, st1⟩ := Jvm.LawKit.callS X0 hx (y := (⟨"jdk/internal/util/Preconditions", "checkIndex", "(IILjava/util/function/BiFunction;)I"⟩ : MethodName)) hown (mvT hZ (hw _ (List.mem_of_getElem? (i := 128) rfl))) (mvT hZ (hw _ (List.mem_of_getElem? (i := 129) rfl))) (mvT hZ (hw _ (List.mem_of_getElem? (i := 130) rfl))) (mvT hZ (hw _ (List.mem_of_getElem? (i := 131) rfl))) (by decide) (backOf (W := 0) (own_pci2 l Z a0 hw []  h0 n0 O0  ) hZ (hw _ (List.mem_of_getElem? (i := 131) rfl)) (hw _ (List.mem_of_getElem? (i := 130) rfl)) (by decide) (by decide)) (g := (mkF m 3 #[.val (.int (0 : Int32)), .val (.int (2 : Int32))] [.null, (.int (2 : Int32)), (.int (0 : Int32))])) rfl (by rw [hml]; rfl) (argsL := [(.int (0 : Int32)), (.int (2 : Int32)), .null]) (rest := []) (lenOf own_pd5 rfl) rfl (by show 2 * 0 + _ ≤ _; exact Nat.le_of_eq rfl) (hb hby own_d15_3) (fun _ _ => ⟨rfl, e0, (by decide : 0 + 0 ≤ _), (by decide : 0 + 0 ≤ _)⟩)
  dsimp only [Pt.U, Pt.locs, Pt.cells, Pt.slots] at X1 l1 y1 z1 st1 hQ1
  subst l1 y1 z1
  obtain ⟨rfl, rfl, e1⟩ := hQ1
  try rw [List.append_nil] at X1
  obtain ⟨fs, hr, hrun, hended, hW, hsame⟩ := X1.leave (v := some (.int (0 : Int32))) (fun h => by rw [Bd.returns] at h; cases h)
  refine ⟨_, _, pre0 _ ?_, hrun, hended, _, _, rfl, ?_, ⟨_, rfl⟩, hW, hsame.mono (by decide) (by decide)⟩
  · show Steps p.tables e below (s₁.setTop (mkF m 0 #[.val (.int (0 : Int32)), .val (.int (2 : Int32))] [])) _
    refine XS.iloadN X0.here hx rfl (hb hby own_d15_0) rfl ?_
    show Steps p.tables e below (s₁.setTop (mkF m 1 #[.val (.int (0 : Int32)), .val (.int (2 : Int32))] [(.int (0 : Int32))])) _
    refine XS.iloadN X0.here hx rfl (hb hby own_d15_1) rfl ?_
    show Steps p.tables e below (s₁.setTop (mkF m 2 #[.val (.int (0 : Int32)), .val (.int (2 : Int32))] [(.int (2 : Int32)), (.int (0 : Int32))])) _
    refine XS.aconstNull X0.here hx rfl (hb hby own_d15_2) ?_
    show Steps p.tables e below (s₁.setTop (mkF m 3 #[.val (.int (0 : Int32)), .val (.int (2 : Int32))] [.null, (.int (2 : Int32)), (.int (0 : Int32))])) _
    refine st1 _ ?_
    show Steps p.tables e below (T1.setTop (mkF m 6 #[.val (.int (0 : Int32)), .val (.int (2 : Int32))] [(.int (0 : Int32))])) _
    exact retI X1 hx Bd.returns (hb hby own_d15_6) hr
  · show own_Q_oci2 Z  h0 n0 _ T1.heap _
    rw [e1]
    exact ⟨rfl, rfl, rfl⟩
def own_Q_ed2 (Z : State) (a : Addr) (x : Addr) (ea : Addr) (vs : Nat → Value) (h0 : Heap) (n0 : Nat) (vv_ : Option Value) (hh_ : Heap) (LL_ : List Loc) : Prop := vv_ = some (.ref x) ∧ LL_ = [] ∧ hh_ = h0
set_option maxRecDepth 65536 in
set_option maxHeartbeats 40000000 in
theorem own_ed2 (l : Launch) (Z : State) (a0 : Array Value) (hw : ∀ d ∈ tables_1, d.before a0 Z = true) (ws : List Jvm.Cond) (a : Addr) (x : Addr) (ea : Addr) (vs : Nat → Value) (h0 : Heap) (n0 : Nat) (O0 : Old Z n0 h0)  (pm_L_a : own_AL Z h0 a ea (2 : Int32) vs) (hv0 : vs 0 = .ref x) :
    MetFree l (⟨"java/util/ArrayList", "elementData", "(I)Ljava/lang/Object;"⟩ : MethodName) (head1 (Jvm.Cond.code (⟨"java/util/ArrayList", "elementData", "(I)Ljava/lang/Object;"⟩ : MethodName) jdk_38_method_18_code 2 (some (.object "java/lang/Object")) :: ws) ({ frames := 0, cells := 0, slots := 0, locals := 0 } : Room)) (fun aa_ U_ => aa_ = #[(.ref a), (.int (0 : Int32))] ∧ Z.Warmed39 U_.vm ∧ U_.heap = h0) (fun _ _ _ _ _ => True) (fun _ U_ oo_ UU_ => ∃ vv_ LL_, oo_ = .returned vv_ ∧ own_Q_ed2 Z a x ea vs h0 n0 vv_ UU_.heap LL_ ∧ FrameEnd U_ oo_ UU_ LL_ ({ frames := 0, cells := 0, slots := 0, locals := 0 } : Room).cells ({ frames := 0, cells := 0, slots := 0, locals := 0 } : Room).slots) := by
  obtain ⟨gE, ⟨mc, gM⟩, gD, gS, ⟨cE, aE, oE, zE, vE⟩, gne⟩ := pm_L_a
  refine MetFree.of_bodySF (plainFor_of_name own_pn2) hisR ?_
  intro p e s m args below meth c s₁ Bd hml0 hP hK
  obtain ⟨rfl, hZ, hh⟩ := hP
  have hx := Bd.exec
  have hby := Bd.bytes
  have hml : c.maxLocals = 2 := hml0
  have hown : s.vm.findClass "java/util/ArrayList" = some m.cls := findClass_of_methodNamed Bd.named
  have hnm := (name_of_methodNamed Bd.named Bd.method).1
  have X0 : Stand p l e ({ frames := 0, cells := 0, slots := 0, locals := 0 } : Room) s m #[(.ref a), (.int (0 : Int32))] below meth c s₁ [] 0 0 := Stand.of_body Bd
  have e0 : s₁.heap = h0 := by rw [← hh, Bd.state]; rfl
  have N0 := Fr.nil n0
  have pre0 : ∀ tt_, Steps p.tables e below (s₁.setTop (mkF m 0 #[.val (.ref a), .val (.int (0 : Int32))] [])) tt_ → Steps p.tables e below (s₁.setTop (entryFrame m #[(.ref a), (.int (0 : Int32))] 2)) tt_ := fun tt_ kk_ => castTop (own_ef17 m a (0 : Int32)) kk_
  obtain ⟨T1, X1, e1, st1⟩ := getF X0 hx hZ hown (host := "") (Or.inl (hw _ (List.mem_of_getElem? (i := 24) rfl))) Via.refl e0 gD (g := (mkF m 1 #[.val (.ref a), .val (.int (0 : Int32))] [(.ref a)])) rfl rfl (hb hby own_d17_1)
  have hin : ¬ ((0 : Int32) < 0 ∨ cE.slots.size ≤ (0 : Int32).toNatClampNeg) := by rw [zE]; decide
  have hat : cE.slots[(0 : Int32).toNatClampNeg]? = some (.ref x) := by rw [← hv0]; exact vE 0 (by decide)
  obtain ⟨fs, hr, hrun, hended, hW, hsame⟩ := X1.leave (v := some (.ref x)) (fun h => by rw [Bd.returns] at h; cases h)
  refine ⟨_, _, pre0 _ ?_, hrun, hended, _, _, rfl, ?_, ⟨_, rfl⟩, hW, hsame.mono (by decide) (by decide)⟩
  · show Steps p.tables e below (s₁.setTop (mkF m 0 #[.val (.ref a), .val (.int (0 : Int32))] [])) _
    refine XS.aloadN X0.here hx rfl (hb hby own_d17_0) rfl rfl ?_
    show Steps p.tables e below (s₁.setTop (mkF m 1 #[.val (.ref a), .val (.int (0 : Int32))] [(.ref a)])) _
    refine st1 _ ?_
    show Steps p.tables e below (T1.setTop (mkF m 4 #[.val (.ref a), .val (.int (0 : Int32))] [(.ref ea)])) _
    refine XS.iloadN X1.here hx rfl (hb hby own_d17_4) rfl ?_
    show Steps p.tables e below (T1.setTop (mkF m 5 #[.val (.ref a), .val (.int (0 : Int32))] [(.int (0 : Int32)), (.ref ea)])) _
    refine X1.aaload hx (j := (0 : Int32)) (v := (.ref x)) (ty := (.object "java/lang/Object")) (by rw [e1]; exact aE.1) (State.isArrayOf_alike hZ.alike aE.2.1) rfl aE.2.2 hin hat (g := (mkF m 5 #[.val (.ref a), .val (.int (0 : Int32))] [(.int (0 : Int32)), (.ref ea)])) rfl rfl (hb hby own_d17_5) _ ?_
    show Steps p.tables e below (T1.setTop (mkF m 6 #[.val (.ref a), .val (.int (0 : Int32))] [(.ref x)])) _
    jvm_step X1.here [X1.here.top, hx, (hb hby own_d17_6), X1.method', Bd.returns, Value.isRef, FieldType.isReference]
    first | (intro acts; rw [hr _ acts rfl rfl rfl]) | rw [hr _ _ rfl rfl rfl]
    exact Steps.refl _
  · show own_Q_ed2 Z a x ea vs h0 n0 _ T1.heap _
    rw [e1]
    exact ⟨rfl, rfl, rfl⟩
def own_Q_get2 (Z : State) (a : Addr) (x : Addr) (ea : Addr) (vs : Nat → Value) (h0 : Heap) (n0 : Nat) (vv_ : Option Value) (hh_ : Heap) (LL_ : List Loc) : Prop := vv_ = some (.ref x) ∧ LL_ = [] ∧ hh_ = h0
set_option maxRecDepth 65536 in
set_option maxHeartbeats 40000000 in
theorem own_get2 (l : Launch) (Z : State) (a0 : Array Value) (hw : ∀ d ∈ tables_1, d.before a0 Z = true) (ws : List Jvm.Cond) (a : Addr) (x : Addr) (ea : Addr) (vs : Nat → Value) (h0 : Heap) (n0 : Nat) (O0 : Old Z n0 h0)  (pm_L_a : own_AL Z h0 a ea (2 : Int32) vs) (hv0 : vs 0 = .ref x) :
    MetFree l (⟨"java/util/ArrayList", "get", "(I)Ljava/lang/Object;"⟩ : MethodName) (head1 (Jvm.Cond.code (⟨"java/util/ArrayList", "get", "(I)Ljava/lang/Object;"⟩ : MethodName) jdk_38_method_20_code 2 (some (.object "java/lang/Object")) :: ws) ({ frames := 2, cells := 0, slots := 0, locals := 27 } : Room)) (fun aa_ U_ => aa_ = #[(.ref a), (.int (0 : Int32))] ∧ Z.Warmed39 U_.vm ∧ U_.heap = h0) (fun _ _ _ _ _ => True) (fun _ U_ oo_ UU_ => ∃ vv_ LL_, oo_ = .returned vv_ ∧ own_Q_get2 Z a x ea vs h0 n0 vv_ UU_.heap LL_ ∧ FrameEnd U_ oo_ UU_ LL_ ({ frames := 2, cells := 0, slots := 0, locals := 27 } : Room).cells ({ frames := 2, cells := 0, slots := 0, locals := 27 } : Room).slots) := by
  refine MetFree.of_bodySF (plainFor_of_name own_pn2) hisR ?_
  intro p e s m args below meth c s₁ Bd hml0 hP hK
  obtain ⟨rfl, hZ, hh⟩ := hP
  have hx := Bd.exec
  have hby := Bd.bytes
  have hml : c.maxLocals = 2 := hml0
  have hown : s.vm.findClass "java/util/ArrayList" = some m.cls := findClass_of_methodNamed Bd.named
  have hnm := (name_of_methodNamed Bd.named Bd.method).1
  have X0 : Stand p l e ({ frames := 2, cells := 0, slots := 0, locals := 27 } : Room) s m #[(.ref a), (.int (0 : Int32))] below meth c s₁ [] 0 0 := Stand.of_body Bd
  have e0 : s₁.heap = h0 := by rw [← hh, Bd.state]; rfl
  have N0 := Fr.nil n0
  have pre0 : ∀ tt_, Steps p.tables e below (s₁.setTop (mkF m 0 #[.val (.ref a), .val (.int (0 : Int32))] [])) tt_ → Steps p.tables e below (s₁.setTop (entryFrame m #[(.ref a), (.int (0 : Int32))] 2)) tt_ := fun tt_ kk_ => castTop (own_ef14 m a (0 : Int32)) kk_
  obtain ⟨T1, X1, e1, st1⟩ := getF X0 hx hZ hown (host := "") (Or.inl (hw _ (List.mem_of_getElem? (i := 44) rfl))) Via.refl e0 pm_L_a.2.2.2.1 (g := (mkF m 2 #[.val (.ref a), .val (.int (0 : Int32))] [(.ref a), (.int (0 : Int32))])) rfl rfl (hb hby own_d14_2)
  obtain ⟨_, _, ⟨T2, L2, k2, n2⟩, -, X2, ⟨Lc2, hQ2, l2, y2, z2⟩, st2⟩ := Jvm.LawKit.callS X1 hx (y := (⟨"java/util/Objects", "checkIndex", "(II)I"⟩ : MethodName)) hown (mvT hZ (hw _ (List.mem_of_getElem? (i := 124) rfl))) (mvT hZ (hw _ (List.mem_of_getElem? (i := 125) rfl))) (mvT hZ (hw _ (List.mem_of_getElem? (i := 126) rfl))) (mvT hZ (hw _ (List.mem_of_getElem? (i := 127) rfl))) (by decide) (backOf (W := 0) (own_oci2 l Z a0 hw []  h0 n0 O0  ) hZ (hw _ (List.mem_of_getElem? (i := 127) rfl)) (hw _ (List.mem_of_getElem? (i := 126) rfl)) (by decide) (by decide)) (g := (mkF m 5 #[.val (.ref a), .val (.int (0 : Int32))] [(.int (2 : Int32)), (.int (0 : Int32))])) rfl (by rw [hml]; rfl) (argsL := [(.int (0 : Int32)), (.int (2 : Int32))]) (rest := []) (lenOf own_pd1 rfl) rfl (by show 2 * 0 + _ ≤ _; exact Nat.le_of_eq rfl) (hb hby own_d14_5) (fun _ _ => ⟨rfl, e1, (by decide : 0 + 0 ≤ _), (by decide : 0 + 0 ≤ _)⟩)
  dsimp only [Pt.U, Pt.locs, Pt.cells, Pt.slots] at X2 l2 y2 z2 st2 hQ2
  subst l2 y2 z2
  obtain ⟨rfl, rfl, e2⟩ := hQ2
  try rw [List.append_nil] at X2
  obtain ⟨cq3, kq3, q3a, q3b, q3c⟩ := isOf hZ e2 pm_L_a.1
  obtain ⟨_, _, ⟨T3, L3, k3, n3⟩, -, X3, ⟨Lc3, hQ3, l3, y3, z3⟩, st3⟩ := X2.virtualBack hx (y := (⟨"java/util/ArrayList", "elementData", "(I)Ljava/lang/Object;"⟩ : MethodName)) (z := (⟨"java/util/ArrayList", "elementData", "(I)Ljava/lang/Object;"⟩ : MethodName)) hown (mvT hZ (hw _ (List.mem_of_getElem? (i := 132) rfl))) (mvT hZ (hw _ (List.mem_of_getElem? (i := 133) rfl))) (notFace_of_selects (args := #[]) (mvT hZ (hw _ (List.mem_of_getElem? (i := 135) rfl)))) (mvT hZ (hw _ (List.mem_of_getElem? (i := 135) rfl))) (mvT hZ (hw _ (List.mem_of_getElem? (i := 134) rfl))) (by decide) (backOf (W := 0) (own_ed2 l Z a0 hw [] a x ea vs h0 n0 O0  pm_L_a hv0) hZ (hw _ (List.mem_of_getElem? (i := 136) rfl)) (hw _ (List.mem_of_getElem? (i := 2) rfl)) (by decide) (by decide)) q3a q3c (g := (mkF m 11 #[.val (.ref a), .val (.int (0 : Int32))] [(.int (0 : Int32)), (.ref a)])) rfl (by rw [hml]; rfl) (Steps.refl _) (argsL := [(.int (0 : Int32))]) (rest := []) (lenOf own_pd6 rfl) rfl (by show 2 * 0 + _ ≤ _; exact Nat.le_of_eq rfl) (hb hby own_d14_11) (fun _ _ => ⟨rfl, e2, (by decide : 0 + 0 ≤ _), (by decide : 0 + 0 ≤ _)⟩)
  dsimp only [Pt.U, Pt.locs, Pt.cells, Pt.slots] at X3 l3 y3 z3 st3 hQ3
  subst l3 y3 z3
  obtain ⟨rfl, rfl, e3⟩ := hQ3
  try rw [List.append_nil] at X3
  obtain ⟨fs, hr, hrun, hended, hW, hsame⟩ := X3.leave (v := some (.ref x)) (fun h => by rw [Bd.returns] at h; cases h)
  refine ⟨_, _, pre0 _ ?_, hrun, hended, _, _, rfl, ?_, ⟨_, rfl⟩, hW, hsame.mono (by decide) (by decide)⟩
  · show Steps p.tables e below (s₁.setTop (mkF m 0 #[.val (.ref a), .val (.int (0 : Int32))] [])) _
    refine XS.iloadN X0.here hx rfl (hb hby own_d14_0) rfl ?_
    show Steps p.tables e below (s₁.setTop (mkF m 1 #[.val (.ref a), .val (.int (0 : Int32))] [(.int (0 : Int32))])) _
    refine XS.aloadN X0.here hx rfl (hb hby own_d14_1) rfl rfl ?_
    show Steps p.tables e below (s₁.setTop (mkF m 2 #[.val (.ref a), .val (.int (0 : Int32))] [(.ref a), (.int (0 : Int32))])) _
    refine st1 _ ?_
    show Steps p.tables e below (T1.setTop (mkF m 5 #[.val (.ref a), .val (.int (0 : Int32))] [(.int (2 : Int32)), (.int (0 : Int32))])) _
    refine st2 _ ?_
    show Steps p.tables e below (T2.setTop (mkF m 8 #[.val (.ref a), .val (.int (0 : Int32))] [(.int (0 : Int32))])) _
    refine XS.pop X2.here hx rfl (hb hby own_d14_8) rfl rfl ?_
    show Steps p.tables e below (T2.setTop (mkF m 9 #[.val (.ref a), .val (.int (0 : Int32))] [])) _
    refine XS.aloadN X2.here hx rfl (hb hby own_d14_9) rfl rfl ?_
    show Steps p.tables e below (T2.setTop (mkF m 10 #[.val (.ref a), .val (.int (0 : Int32))] [(.ref a)])) _
    refine XS.iloadN X2.here hx rfl (hb hby own_d14_10) rfl ?_
    show Steps p.tables e below (T2.setTop (mkF m 11 #[.val (.ref a), .val (.int (0 : Int32))] [(.int (0 : Int32)), (.ref a)])) _
    refine st3.trans ?_
    show Steps p.tables e below (T3.setTop (mkF m 14 #[.val (.ref a), .val (.int (0 : Int32))] [(.ref x)])) _
    jvm_step X3.here [X3.here.top, hx, (hb hby own_d14_14), X3.method', Bd.returns, Value.isRef, FieldType.isReference]
    first | (intro acts; rw [hr _ acts rfl rfl rfl]) | rw [hr _ _ rfl rfl rfl]
    exact Steps.refl _
  · show own_Q_get2 Z a x ea vs h0 n0 _ T3.heap _
    rw [e3]
    exact ⟨rfl, rfl, rfl⟩
def own_Q_pci3 (Z : State)  (h0 : Heap) (n0 : Nat) (vv_ : Option Value) (hh_ : Heap) (LL_ : List Loc) : Prop := vv_ = some (.int (0 : Int32)) ∧ LL_ = [] ∧ hh_ = h0
set_option maxRecDepth 65536 in
set_option maxHeartbeats 40000000 in
theorem own_pci3 (l : Launch) (Z : State) (a0 : Array Value) (hw : ∀ d ∈ tables_1, d.before a0 Z = true) (ws : List Jvm.Cond)  (h0 : Heap) (n0 : Nat) (O0 : Old Z n0 h0)   :
    MetFree l (⟨"jdk/internal/util/Preconditions", "checkIndex", "(IILjava/util/function/BiFunction;)I"⟩ : MethodName) (head1 (Jvm.Cond.code (⟨"jdk/internal/util/Preconditions", "checkIndex", "(IILjava/util/function/BiFunction;)I"⟩ : MethodName) jdk_41_method_11_code 3 (some .int) :: ws) ({ frames := 0, cells := 0, slots := 0, locals := 0 } : Room)) (fun aa_ U_ => aa_ = #[(.int (0 : Int32)), (.int (3 : Int32)), .null] ∧ Z.Warmed39 U_.vm ∧ U_.heap = h0) (fun _ _ _ _ _ => True) (fun _ U_ oo_ UU_ => ∃ vv_ LL_, oo_ = .returned vv_ ∧ own_Q_pci3 Z  h0 n0 vv_ UU_.heap LL_ ∧ FrameEnd U_ oo_ UU_ LL_ ({ frames := 0, cells := 0, slots := 0, locals := 0 } : Room).cells ({ frames := 0, cells := 0, slots := 0, locals := 0 } : Room).slots) := by
  refine MetFree.of_bodySF (plainFor_of_name own_pn3) hisR ?_
  intro p e s m args below meth c s₁ Bd hml0 hP hK
  obtain ⟨rfl, hZ, hh⟩ := hP
  have hx := Bd.exec
  have hby := Bd.bytes
  have hml : c.maxLocals = 3 := hml0
  have hown : s.vm.findClass "jdk/internal/util/Preconditions" = some m.cls := findClass_of_methodNamed Bd.named
  have hnm := (name_of_methodNamed Bd.named Bd.method).1
  have X0 : Stand p l e ({ frames := 0, cells := 0, slots := 0, locals := 0 } : Room) s m #[(.int (0 : Int32)), (.int (3 : Int32)), .null] below meth c s₁ [] 0 0 := Stand.of_body Bd
  have e0 : s₁.heap = h0 := by rw [← hh, Bd.state]; rfl
  have N0 := Fr.nil n0
  have pre0 : ∀ tt_, Steps p.tables e below (s₁.setTop (mkF m 0 #[.val (.int (0 : Int32)), .val (.int (3 : Int32)), .val .null] [])) tt_ → Steps p.tables e below (s₁.setTop (entryFrame m #[(.int (0 : Int32)), (.int (3 : Int32)), .null] 3)) tt_ := fun tt_ kk_ => castTop (own_ef16__n m (0 : Int32) (3 : Int32)) kk_
  obtain ⟨fs, hr, hrun, hended, hW, hsame⟩ := X0.leave (v := some (.int (0 : Int32))) (fun h => by rw [Bd.returns] at h; cases h)
  refine ⟨_, _, pre0 _ ?_, hrun, hended, _, _, rfl, ?_, ⟨_, rfl⟩, hW, hsame.mono (by decide) (by decide)⟩
  · show Steps p.tables e below (s₁.setTop (mkF m 0 #[.val (.int (0 : Int32)), .val (.int (3 : Int32)), .val .null] [])) _
    refine XS.iloadN X0.here hx rfl (hb hby own_d16_0) rfl ?_
    show Steps p.tables e below (s₁.setTop (mkF m 1 #[.val (.int (0 : Int32)), .val (.int (3 : Int32)), .val .null] [(.int (0 : Int32))])) _
    refine XS.ifNo X0.here hx rfl (hb hby own_d16_1) rfl ((if0 _ _).trans (flt (by decide : ¬ ((0 : Int32) < (0 : Int32)))).1) ?_
    show Steps p.tables e below (s₁.setTop (mkF m 4 #[.val (.int (0 : Int32)), .val (.int (3 : Int32)), .val .null] [])) _
    refine XS.iloadN X0.here hx rfl (hb hby own_d16_4) rfl ?_
    show Steps p.tables e below (s₁.setTop (mkF m 5 #[.val (.int (0 : Int32)), .val (.int (3 : Int32)), .val .null] [(.int (0 : Int32))])) _
    refine XS.iloadN X0.here hx rfl (hb hby own_d16_5) rfl ?_
    show Steps p.tables e below (s₁.setTop (mkF m 6 #[.val (.int (0 : Int32)), .val (.int (3 : Int32)), .val .null] [(.int (3 : Int32)), (.int (0 : Int32))])) _
    refine XS.icmpYes X0.here hx rfl (pc0 := 6) (pc' := 16) rfl (hb hby own_d16_6) rfl (tlt (by decide : (0 : Int32) < (3 : Int32))).1 (by decide) (by decide) ?_
    show Steps p.tables e below (s₁.setTop (mkF m 16 #[.val (.int (0 : Int32)), .val (.int (3 : Int32)), .val .null] [])) _
    refine XS.iloadN X0.here hx rfl (hb hby own_d16_16) rfl ?_
    show Steps p.tables e below (s₁.setTop (mkF m 17 #[.val (.int (0 : Int32)), .val (.int (3 : Int32)), .val .null] [(.int (0 : Int32))])) _
    exact retI X0 hx Bd.returns (hb hby own_d16_17) hr
  · show own_Q_pci3 Z  h0 n0 _ s₁.heap _
    rw [e0]
    exact ⟨rfl, rfl, rfl⟩
def own_Q_oci3 (Z : State)  (h0 : Heap) (n0 : Nat) (vv_ : Option Value) (hh_ : Heap) (LL_ : List Loc) : Prop := vv_ = some (.int (0 : Int32)) ∧ LL_ = [] ∧ hh_ = h0
set_option maxRecDepth 65536 in
set_option maxHeartbeats 40000000 in
theorem own_oci3 (l : Launch) (Z : State) (a0 : Array Value) (hw : ∀ d ∈ tables_1, d.before a0 Z = true) (ws : List Jvm.Cond)  (h0 : Heap) (n0 : Nat) (O0 : Old Z n0 h0)   :
    MetFree l (⟨"java/util/Objects", "checkIndex", "(II)I"⟩ : MethodName) (head1 (Jvm.Cond.code (⟨"java/util/Objects", "checkIndex", "(II)I"⟩ : MethodName) jdk_31_method_17_code 2 (some .int) :: ws) ({ frames := 1, cells := 0, slots := 0, locals := 14 } : Room)) (fun aa_ U_ => aa_ = #[(.int (0 : Int32)), (.int (3 : Int32))] ∧ Z.Warmed39 U_.vm ∧ U_.heap = h0) (fun _ _ _ _ _ => True) (fun _ U_ oo_ UU_ => ∃ vv_ LL_, oo_ = .returned vv_ ∧ own_Q_oci3 Z  h0 n0 vv_ UU_.heap LL_ ∧ FrameEnd U_ oo_ UU_ LL_ ({ frames := 1, cells := 0, slots := 0, locals := 14 } : Room).cells ({ frames := 1, cells := 0, slots := 0, locals := 14 } : Room).slots) := by
  refine MetFree.of_bodySF (plainFor_of_name own_pn4) hisR ?_
  intro p e s m args below meth c s₁ Bd hml0 hP hK
  obtain ⟨rfl, hZ, hh⟩ := hP
  have hx := Bd.exec
  have hby := Bd.bytes
  have hml : c.maxLocals = 2 := hml0
  have hown : s.vm.findClass "java/util/Objects" = some m.cls := findClass_of_methodNamed Bd.named
  have hnm := (name_of_methodNamed Bd.named Bd.method).1
  have X0 : Stand p l e ({ frames := 1, cells := 0, slots := 0, locals := 14 } : Room) s m #[(.int (0 : Int32)), (.int (3 : Int32))] below meth c s₁ [] 0 0 := Stand.of_body Bd
  have e0 : s₁.heap = h0 := by rw [← hh, Bd.state]; rfl
  have N0 := Fr.nil n0
  have pre0 : ∀ tt_, Steps p.tables e below (s₁.setTop (mkF m 0 #[.val (.int (0 : Int32)), .val (.int (3 : Int32))] [])) tt_ → Steps p.tables e below (s₁.setTop (entryFrame m #[(.int (0 : Int32)), (.int (3 : Int32))] 2)) tt_ := fun tt_ kk_ => castTop (own_ef15 m (0 : Int32) (3 : Int32)) kk_
  obtain ⟨_, _, ⟨T1, L1, k1, n1⟩, -, X1, ⟨Lc1, hQ1, l1, y1, z1⟩, st1⟩ := Jvm.LawKit.callS X0 hx (y := (⟨"jdk/internal/util/Preconditions", "checkIndex", "(IILjava/util/function/BiFunction;)I"⟩ : MethodName)) hown (mvT hZ (hw _ (List.mem_of_getElem? (i := 128) rfl))) (mvT hZ (hw _ (List.mem_of_getElem? (i := 129) rfl))) (mvT hZ (hw _ (List.mem_of_getElem? (i := 130) rfl))) (mvT hZ (hw _ (List.mem_of_getElem? (i := 131) rfl))) (by decide) (backOf (W := 0) (own_pci3 l Z a0 hw []  h0 n0 O0  ) hZ (hw _ (List.mem_of_getElem? (i := 131) rfl)) (hw _ (List.mem_of_getElem? (i := 130) rfl)) (by decide) (by decide)) (g := (mkF m 3 #[.val (.int (0 : Int32)), .val (.int (3 : Int32))] [.null, (.int (3 : Int32)), (.int (0 : Int32))])) rfl (by rw [hml]; rfl) (argsL := [(.int (0 : Int32)), (.int (3 : Int32)), .null]) (rest := []) (lenOf own_pd5 rfl) rfl (by show 2 * 0 + _ ≤ _; exact Nat.le_of_eq rfl) (hb hby own_d15_3) (fun _ _ => ⟨rfl, e0, (by decide : 0 + 0 ≤ _), (by decide : 0 + 0 ≤ _)⟩)
  dsimp only [Pt.U, Pt.locs, Pt.cells, Pt.slots] at X1 l1 y1 z1 st1 hQ1
  subst l1 y1 z1
  obtain ⟨rfl, rfl, e1⟩ := hQ1
  try rw [List.append_nil] at X1
  obtain ⟨fs, hr, hrun, hended, hW, hsame⟩ := X1.leave (v := some (.int (0 : Int32))) (fun h => by rw [Bd.returns] at h; cases h)
  refine ⟨_, _, pre0 _ ?_, hrun, hended, _, _, rfl, ?_, ⟨_, rfl⟩, hW, hsame.mono (by decide) (by decide)⟩
  · show Steps p.tables e below (s₁.setTop (mkF m 0 #[.val (.int (0 : Int32)), .val (.int (3 : Int32))] [])) _
    refine XS.iloadN X0.here hx rfl (hb hby own_d15_0) rfl ?_
    show Steps p.tables e below (s₁.setTop (mkF m 1 #[.val (.int (0 : Int32)), .val (.int (3 : Int32))] [(.int (0 : Int32))])) _
    refine XS.iloadN X0.here hx rfl (hb hby own_d15_1) rfl ?_
    show Steps p.tables e below (s₁.setTop (mkF m 2 #[.val (.int (0 : Int32)), .val (.int (3 : Int32))] [(.int (3 : Int32)), (.int (0 : Int32))])) _
    refine XS.aconstNull X0.here hx rfl (hb hby own_d15_2) ?_
    show Steps p.tables e below (s₁.setTop (mkF m 3 #[.val (.int (0 : Int32)), .val (.int (3 : Int32))] [.null, (.int (3 : Int32)), (.int (0 : Int32))])) _
    refine st1 _ ?_
    show Steps p.tables e below (T1.setTop (mkF m 6 #[.val (.int (0 : Int32)), .val (.int (3 : Int32))] [(.int (0 : Int32))])) _
    exact retI X1 hx Bd.returns (hb hby own_d15_6) hr
  · show own_Q_oci3 Z  h0 n0 _ T1.heap _
    rw [e1]
    exact ⟨rfl, rfl, rfl⟩
def own_Q_ed3 (Z : State) (a : Addr) (x : Addr) (ea : Addr) (vs : Nat → Value) (h0 : Heap) (n0 : Nat) (vv_ : Option Value) (hh_ : Heap) (LL_ : List Loc) : Prop := vv_ = some (.ref x) ∧ LL_ = [] ∧ hh_ = h0
set_option maxRecDepth 65536 in
set_option maxHeartbeats 40000000 in
theorem own_ed3 (l : Launch) (Z : State) (a0 : Array Value) (hw : ∀ d ∈ tables_1, d.before a0 Z = true) (ws : List Jvm.Cond) (a : Addr) (x : Addr) (ea : Addr) (vs : Nat → Value) (h0 : Heap) (n0 : Nat) (O0 : Old Z n0 h0)  (pm_L_a : own_AL Z h0 a ea (3 : Int32) vs) (hv0 : vs 0 = .ref x) :
    MetFree l (⟨"java/util/ArrayList", "elementData", "(I)Ljava/lang/Object;"⟩ : MethodName) (head1 (Jvm.Cond.code (⟨"java/util/ArrayList", "elementData", "(I)Ljava/lang/Object;"⟩ : MethodName) jdk_38_method_18_code 2 (some (.object "java/lang/Object")) :: ws) ({ frames := 0, cells := 0, slots := 0, locals := 0 } : Room)) (fun aa_ U_ => aa_ = #[(.ref a), (.int (0 : Int32))] ∧ Z.Warmed39 U_.vm ∧ U_.heap = h0) (fun _ _ _ _ _ => True) (fun _ U_ oo_ UU_ => ∃ vv_ LL_, oo_ = .returned vv_ ∧ own_Q_ed3 Z a x ea vs h0 n0 vv_ UU_.heap LL_ ∧ FrameEnd U_ oo_ UU_ LL_ ({ frames := 0, cells := 0, slots := 0, locals := 0 } : Room).cells ({ frames := 0, cells := 0, slots := 0, locals := 0 } : Room).slots) := by
  obtain ⟨gE, ⟨mc, gM⟩, gD, gS, ⟨cE, aE, oE, zE, vE⟩, gne⟩ := pm_L_a
  refine MetFree.of_bodySF (plainFor_of_name own_pn2) hisR ?_
  intro p e s m args below meth c s₁ Bd hml0 hP hK
  obtain ⟨rfl, hZ, hh⟩ := hP
  have hx := Bd.exec
  have hby := Bd.bytes
  have hml : c.maxLocals = 2 := hml0
  have hown : s.vm.findClass "java/util/ArrayList" = some m.cls := findClass_of_methodNamed Bd.named
  have hnm := (name_of_methodNamed Bd.named Bd.method).1
  have X0 : Stand p l e ({ frames := 0, cells := 0, slots := 0, locals := 0 } : Room) s m #[(.ref a), (.int (0 : Int32))] below meth c s₁ [] 0 0 := Stand.of_body Bd
  have e0 : s₁.heap = h0 := by rw [← hh, Bd.state]; rfl
  have N0 := Fr.nil n0
  have pre0 : ∀ tt_, Steps p.tables e below (s₁.setTop (mkF m 0 #[.val (.ref a), .val (.int (0 : Int32))] [])) tt_ → Steps p.tables e below (s₁.setTop (entryFrame m #[(.ref a), (.int (0 : Int32))] 2)) tt_ := fun tt_ kk_ => castTop (own_ef17 m a (0 : Int32)) kk_
  obtain ⟨T1, X1, e1, st1⟩ := getF X0 hx hZ hown (host := "") (Or.inl (hw _ (List.mem_of_getElem? (i := 24) rfl))) Via.refl e0 gD (g := (mkF m 1 #[.val (.ref a), .val (.int (0 : Int32))] [(.ref a)])) rfl rfl (hb hby own_d17_1)
  have hin : ¬ ((0 : Int32) < 0 ∨ cE.slots.size ≤ (0 : Int32).toNatClampNeg) := by rw [zE]; decide
  have hat : cE.slots[(0 : Int32).toNatClampNeg]? = some (.ref x) := by rw [← hv0]; exact vE 0 (by decide)
  obtain ⟨fs, hr, hrun, hended, hW, hsame⟩ := X1.leave (v := some (.ref x)) (fun h => by rw [Bd.returns] at h; cases h)
  refine ⟨_, _, pre0 _ ?_, hrun, hended, _, _, rfl, ?_, ⟨_, rfl⟩, hW, hsame.mono (by decide) (by decide)⟩
  · show Steps p.tables e below (s₁.setTop (mkF m 0 #[.val (.ref a), .val (.int (0 : Int32))] [])) _
    refine XS.aloadN X0.here hx rfl (hb hby own_d17_0) rfl rfl ?_
    show Steps p.tables e below (s₁.setTop (mkF m 1 #[.val (.ref a), .val (.int (0 : Int32))] [(.ref a)])) _
    refine st1 _ ?_
    show Steps p.tables e below (T1.setTop (mkF m 4 #[.val (.ref a), .val (.int (0 : Int32))] [(.ref ea)])) _
    refine XS.iloadN X1.here hx rfl (hb hby own_d17_4) rfl ?_
    show Steps p.tables e below (T1.setTop (mkF m 5 #[.val (.ref a), .val (.int (0 : Int32))] [(.int (0 : Int32)), (.ref ea)])) _
    refine X1.aaload hx (j := (0 : Int32)) (v := (.ref x)) (ty := (.object "java/lang/Object")) (by rw [e1]; exact aE.1) (State.isArrayOf_alike hZ.alike aE.2.1) rfl aE.2.2 hin hat (g := (mkF m 5 #[.val (.ref a), .val (.int (0 : Int32))] [(.int (0 : Int32)), (.ref ea)])) rfl rfl (hb hby own_d17_5) _ ?_
    show Steps p.tables e below (T1.setTop (mkF m 6 #[.val (.ref a), .val (.int (0 : Int32))] [(.ref x)])) _
    jvm_step X1.here [X1.here.top, hx, (hb hby own_d17_6), X1.method', Bd.returns, Value.isRef, FieldType.isReference]
    first | (intro acts; rw [hr _ acts rfl rfl rfl]) | rw [hr _ _ rfl rfl rfl]
    exact Steps.refl _
  · show own_Q_ed3 Z a x ea vs h0 n0 _ T1.heap _
    rw [e1]
    exact ⟨rfl, rfl, rfl⟩
def own_Q_get3 (Z : State) (a : Addr) (x : Addr) (ea : Addr) (vs : Nat → Value) (h0 : Heap) (n0 : Nat) (vv_ : Option Value) (hh_ : Heap) (LL_ : List Loc) : Prop := vv_ = some (.ref x) ∧ LL_ = [] ∧ hh_ = h0
set_option maxRecDepth 65536 in
set_option maxHeartbeats 40000000 in
theorem own_get3 (l : Launch) (Z : State) (a0 : Array Value) (hw : ∀ d ∈ tables_1, d.before a0 Z = true) (ws : List Jvm.Cond) (a : Addr) (x : Addr) (ea : Addr) (vs : Nat → Value) (h0 : Heap) (n0 : Nat) (O0 : Old Z n0 h0)  (pm_L_a : own_AL Z h0 a ea (3 : Int32) vs) (hv0 : vs 0 = .ref x) :
    MetFree l (⟨"java/util/ArrayList", "get", "(I)Ljava/lang/Object;"⟩ : MethodName) (head1 (Jvm.Cond.code (⟨"java/util/ArrayList", "get", "(I)Ljava/lang/Object;"⟩ : MethodName) jdk_38_method_20_code 2 (some (.object "java/lang/Object")) :: ws) ({ frames := 2, cells := 0, slots := 0, locals := 27 } : Room)) (fun aa_ U_ => aa_ = #[(.ref a), (.int (0 : Int32))] ∧ Z.Warmed39 U_.vm ∧ U_.heap = h0) (fun _ _ _ _ _ => True) (fun _ U_ oo_ UU_ => ∃ vv_ LL_, oo_ = .returned vv_ ∧ own_Q_get3 Z a x ea vs h0 n0 vv_ UU_.heap LL_ ∧ FrameEnd U_ oo_ UU_ LL_ ({ frames := 2, cells := 0, slots := 0, locals := 27 } : Room).cells ({ frames := 2, cells := 0, slots := 0, locals := 27 } : Room).slots) := by
  refine MetFree.of_bodySF (plainFor_of_name own_pn2) hisR ?_
  intro p e s m args below meth c s₁ Bd hml0 hP hK
  obtain ⟨rfl, hZ, hh⟩ := hP
  have hx := Bd.exec
  have hby := Bd.bytes
  have hml : c.maxLocals = 2 := hml0
  have hown : s.vm.findClass "java/util/ArrayList" = some m.cls := findClass_of_methodNamed Bd.named
  have hnm := (name_of_methodNamed Bd.named Bd.method).1
  have X0 : Stand p l e ({ frames := 2, cells := 0, slots := 0, locals := 27 } : Room) s m #[(.ref a), (.int (0 : Int32))] below meth c s₁ [] 0 0 := Stand.of_body Bd
  have e0 : s₁.heap = h0 := by rw [← hh, Bd.state]; rfl
  have N0 := Fr.nil n0
  have pre0 : ∀ tt_, Steps p.tables e below (s₁.setTop (mkF m 0 #[.val (.ref a), .val (.int (0 : Int32))] [])) tt_ → Steps p.tables e below (s₁.setTop (entryFrame m #[(.ref a), (.int (0 : Int32))] 2)) tt_ := fun tt_ kk_ => castTop (own_ef14 m a (0 : Int32)) kk_
  obtain ⟨T1, X1, e1, st1⟩ := getF X0 hx hZ hown (host := "") (Or.inl (hw _ (List.mem_of_getElem? (i := 44) rfl))) Via.refl e0 pm_L_a.2.2.2.1 (g := (mkF m 2 #[.val (.ref a), .val (.int (0 : Int32))] [(.ref a), (.int (0 : Int32))])) rfl rfl (hb hby own_d14_2)
  obtain ⟨_, _, ⟨T2, L2, k2, n2⟩, -, X2, ⟨Lc2, hQ2, l2, y2, z2⟩, st2⟩ := Jvm.LawKit.callS X1 hx (y := (⟨"java/util/Objects", "checkIndex", "(II)I"⟩ : MethodName)) hown (mvT hZ (hw _ (List.mem_of_getElem? (i := 124) rfl))) (mvT hZ (hw _ (List.mem_of_getElem? (i := 125) rfl))) (mvT hZ (hw _ (List.mem_of_getElem? (i := 126) rfl))) (mvT hZ (hw _ (List.mem_of_getElem? (i := 127) rfl))) (by decide) (backOf (W := 0) (own_oci3 l Z a0 hw []  h0 n0 O0  ) hZ (hw _ (List.mem_of_getElem? (i := 127) rfl)) (hw _ (List.mem_of_getElem? (i := 126) rfl)) (by decide) (by decide)) (g := (mkF m 5 #[.val (.ref a), .val (.int (0 : Int32))] [(.int (3 : Int32)), (.int (0 : Int32))])) rfl (by rw [hml]; rfl) (argsL := [(.int (0 : Int32)), (.int (3 : Int32))]) (rest := []) (lenOf own_pd1 rfl) rfl (by show 2 * 0 + _ ≤ _; exact Nat.le_of_eq rfl) (hb hby own_d14_5) (fun _ _ => ⟨rfl, e1, (by decide : 0 + 0 ≤ _), (by decide : 0 + 0 ≤ _)⟩)
  dsimp only [Pt.U, Pt.locs, Pt.cells, Pt.slots] at X2 l2 y2 z2 st2 hQ2
  subst l2 y2 z2
  obtain ⟨rfl, rfl, e2⟩ := hQ2
  try rw [List.append_nil] at X2
  obtain ⟨cq3, kq3, q3a, q3b, q3c⟩ := isOf hZ e2 pm_L_a.1
  obtain ⟨_, _, ⟨T3, L3, k3, n3⟩, -, X3, ⟨Lc3, hQ3, l3, y3, z3⟩, st3⟩ := X2.virtualBack hx (y := (⟨"java/util/ArrayList", "elementData", "(I)Ljava/lang/Object;"⟩ : MethodName)) (z := (⟨"java/util/ArrayList", "elementData", "(I)Ljava/lang/Object;"⟩ : MethodName)) hown (mvT hZ (hw _ (List.mem_of_getElem? (i := 132) rfl))) (mvT hZ (hw _ (List.mem_of_getElem? (i := 133) rfl))) (notFace_of_selects (args := #[]) (mvT hZ (hw _ (List.mem_of_getElem? (i := 135) rfl)))) (mvT hZ (hw _ (List.mem_of_getElem? (i := 135) rfl))) (mvT hZ (hw _ (List.mem_of_getElem? (i := 134) rfl))) (by decide) (backOf (W := 0) (own_ed3 l Z a0 hw [] a x ea vs h0 n0 O0  pm_L_a hv0) hZ (hw _ (List.mem_of_getElem? (i := 136) rfl)) (hw _ (List.mem_of_getElem? (i := 2) rfl)) (by decide) (by decide)) q3a q3c (g := (mkF m 11 #[.val (.ref a), .val (.int (0 : Int32))] [(.int (0 : Int32)), (.ref a)])) rfl (by rw [hml]; rfl) (Steps.refl _) (argsL := [(.int (0 : Int32))]) (rest := []) (lenOf own_pd6 rfl) rfl (by show 2 * 0 + _ ≤ _; exact Nat.le_of_eq rfl) (hb hby own_d14_11) (fun _ _ => ⟨rfl, e2, (by decide : 0 + 0 ≤ _), (by decide : 0 + 0 ≤ _)⟩)
  dsimp only [Pt.U, Pt.locs, Pt.cells, Pt.slots] at X3 l3 y3 z3 st3 hQ3
  subst l3 y3 z3
  obtain ⟨rfl, rfl, e3⟩ := hQ3
  try rw [List.append_nil] at X3
  obtain ⟨fs, hr, hrun, hended, hW, hsame⟩ := X3.leave (v := some (.ref x)) (fun h => by rw [Bd.returns] at h; cases h)
  refine ⟨_, _, pre0 _ ?_, hrun, hended, _, _, rfl, ?_, ⟨_, rfl⟩, hW, hsame.mono (by decide) (by decide)⟩
  · show Steps p.tables e below (s₁.setTop (mkF m 0 #[.val (.ref a), .val (.int (0 : Int32))] [])) _
    refine XS.iloadN X0.here hx rfl (hb hby own_d14_0) rfl ?_
    show Steps p.tables e below (s₁.setTop (mkF m 1 #[.val (.ref a), .val (.int (0 : Int32))] [(.int (0 : Int32))])) _
    refine XS.aloadN X0.here hx rfl (hb hby own_d14_1) rfl rfl ?_
    show Steps p.tables e below (s₁.setTop (mkF m 2 #[.val (.ref a), .val (.int (0 : Int32))] [(.ref a), (.int (0 : Int32))])) _
    refine st1 _ ?_
    show Steps p.tables e below (T1.setTop (mkF m 5 #[.val (.ref a), .val (.int (0 : Int32))] [(.int (3 : Int32)), (.int (0 : Int32))])) _
    refine st2 _ ?_
    show Steps p.tables e below (T2.setTop (mkF m 8 #[.val (.ref a), .val (.int (0 : Int32))] [(.int (0 : Int32))])) _
    refine XS.pop X2.here hx rfl (hb hby own_d14_8) rfl rfl ?_
    show Steps p.tables e below (T2.setTop (mkF m 9 #[.val (.ref a), .val (.int (0 : Int32))] [])) _
    refine XS.aloadN X2.here hx rfl (hb hby own_d14_9) rfl rfl ?_
    show Steps p.tables e below (T2.setTop (mkF m 10 #[.val (.ref a), .val (.int (0 : Int32))] [(.ref a)])) _
    refine XS.iloadN X2.here hx rfl (hb hby own_d14_10) rfl ?_
    show Steps p.tables e below (T2.setTop (mkF m 11 #[.val (.ref a), .val (.int (0 : Int32))] [(.int (0 : Int32)), (.ref a)])) _
    refine st3.trans ?_
    show Steps p.tables e below (T3.setTop (mkF m 14 #[.val (.ref a), .val (.int (0 : Int32))] [(.ref x)])) _
    jvm_step X3.here [X3.here.top, hx, (hb hby own_d14_14), X3.method', Bd.returns, Value.isRef, FieldType.isReference]
    first | (intro acts; rw [hr _ acts rfl rfl rfl]) | rw [hr _ _ rfl rfl rfl]
    exact Steps.refl _
  · show own_Q_get3 Z a x ea vs h0 n0 _ T3.heap _
    rw [e3]
    exact ⟨rfl, rfl, rfl⟩
theorem own_d21_0 : decode jdk_18_method_1_code 0 = .ok (.aload_n 0, 1) := by decide +kernel
theorem own_d21_1 : decode jdk_18_method_1_code 1 = .ok (.invokespecial 1, 3) := by decide +kernel
theorem own_d21_4 : decode jdk_18_method_1_code 4 = .ok (.return_, 1) := by decide +kernel
def own_Q_ni (Z : State) (r : Addr) (h0 : Heap) (n0 : Nat) (vv_ : Option Value) (hh_ : Heap) (LL_ : List Loc) : Prop := vv_ = none ∧ LL_ = [] ∧ hh_ = h0
theorem own_ef21 (m : MethodId) (x0 : Addr) : entryFrame m #[(.ref x0)] 1 = mkF m 0 #[.val (.ref x0)] [] := by first | (simp [entryFrame, mkF, argsToLocals, Value.category]; done) | rfl
theorem own_pn5 : plainName "java/lang/Number" = true := by first | (simp [plainName, overriddenIn]; done) | decide +kernel
set_option maxRecDepth 65536 in
set_option maxHeartbeats 40000000 in
theorem own_ni (l : Launch) (Z : State) (a0 : Array Value) (hw : ∀ d ∈ tables_1, d.before a0 Z = true) (ws : List Jvm.Cond) (r : Addr) (h0 : Heap) (n0 : Nat) (O0 : Old Z n0 h0)   :
    MetFree l (⟨"java/lang/Number", "<init>", "()V"⟩ : MethodName) (head1 (Jvm.Cond.code (⟨"java/lang/Number", "<init>", "()V"⟩ : MethodName) jdk_18_method_1_code 1 none :: ws) ({ frames := 1, cells := 0, slots := 0, locals := 12 } : Room)) (fun aa_ U_ => aa_ = #[(.ref r)] ∧ Z.Warmed39 U_.vm ∧ U_.heap = h0) (fun _ _ _ _ _ => True) (fun _ U_ oo_ UU_ => ∃ vv_ LL_, oo_ = .returned vv_ ∧ own_Q_ni Z r h0 n0 vv_ UU_.heap LL_ ∧ FrameEnd U_ oo_ UU_ LL_ ({ frames := 1, cells := 0, slots := 0, locals := 12 } : Room).cells ({ frames := 1, cells := 0, slots := 0, locals := 12 } : Room).slots) := by
  refine MetFree.of_bodySF (plainFor_of_name own_pn5) hisR ?_
  intro p e s m args below meth c s₁ Bd hml0 hP hK
  obtain ⟨rfl, hZ, hh⟩ := hP
  have hx := Bd.exec
  have hby := Bd.bytes
  have hml : c.maxLocals = 1 := hml0
  have hown : s.vm.findClass "java/lang/Number" = some m.cls := findClass_of_methodNamed Bd.named
  have hnm := (name_of_methodNamed Bd.named Bd.method).1
  have X0 : Stand p l e ({ frames := 1, cells := 0, slots := 0, locals := 12 } : Room) s m #[(.ref r)] below meth c s₁ [] 0 0 := Stand.of_body Bd
  have e0 : s₁.heap = h0 := by rw [← hh, Bd.state]; rfl
  have N0 := Fr.nil n0
  have pre0 : ∀ tt_, Steps p.tables e below (s₁.setTop (mkF m 0 #[.val (.ref r)] [])) tt_ → Steps p.tables e below (s₁.setTop (entryFrame m #[(.ref r)] 1)) tt_ := fun tt_ kk_ => castTop (own_ef21 m r) kk_
  obtain ⟨T1, X1, e1, st1⟩ := initO X0 hx hZ hown (hw _ (List.mem_of_getElem? (i := 166) rfl)) (hw _ (List.mem_of_getElem? (i := 19) rfl)) (hw _ (List.mem_of_getElem? (i := 20) rfl)) e0 (g := (mkF m 1 #[.val (.ref r)] [(.ref r)])) rfl (by rw [hml]; rfl) rfl (hb hby own_d21_1) (by decide) (W := 0) (by show 2 * 0 + _ ≤ _; exact Nat.le_of_eq rfl) (by decide)
  obtain ⟨fs, hr, hrun, hended, hW, hsame⟩ := X1.leave (v := none) (fun _ => rfl)
  refine ⟨_, _, pre0 _ ?_, hrun, hended, _, _, rfl, ?_, ⟨_, rfl⟩, hW, hsame.mono (by decide) (by decide)⟩
  · show Steps p.tables e below (s₁.setTop (mkF m 0 #[.val (.ref r)] [])) _
    refine XS.aloadN X0.here hx rfl (hb hby own_d21_0) rfl rfl ?_
    show Steps p.tables e below (s₁.setTop (mkF m 1 #[.val (.ref r)] [(.ref r)])) _
    refine st1 _ ?_
    show Steps p.tables e below (T1.setTop (mkF m 4 #[.val (.ref r)] [])) _
    exact X1.returnOut hx Bd.returns (hb hby own_d21_4) hr
  · show own_Q_ni Z r h0 n0 _ T1.heap _
    rw [e1]
    exact ⟨rfl, rfl, rfl⟩
theorem own_d20_0 : decode jdk_33_method_23_code 0 = .ok (.aload_n 0, 1) := by decide +kernel
theorem own_d20_1 : decode jdk_33_method_23_code 1 = .ok (.invokespecial 202, 3) := by decide +kernel
theorem own_d20_4 : decode jdk_33_method_23_code 4 = .ok (.aload_n 0, 1) := by decide +kernel
theorem own_d20_5 : decode jdk_33_method_23_code 5 = .ok (.iload_n 1, 1) := by decide +kernel
theorem own_d20_6 : decode jdk_33_method_23_code 6 = .ok (.putfield 205, 3) := by decide +kernel
theorem own_d20_9 : decode jdk_33_method_23_code 9 = .ok (.return_, 1) := by decide +kernel
def own_Q_ii (Z : State) (r : Addr) (p1 : Int32) (h0 : Heap) (n0 : Nat) (vv_ : Option Value) (hh_ : Heap) (LL_ : List Loc) : Prop := vv_ = none ∧ Fr n0 LL_ ∧ Old Z n0 hh_ ∧ Keep h0 hh_ [r] ∧ Exa Z hh_ r "java/lang/Integer" ∧ Fld Z hh_ r "java/lang/Integer" "value" "I" (.int p1)
theorem own_ef20 (m : MethodId) (x0 : Addr) (x1 : Int32) : entryFrame m #[(.ref x0), (.int x1)] 2 = mkF m 0 #[.val (.ref x0), .val (.int x1)] [] := by first | (simp [entryFrame, mkF, argsToLocals, Value.category]; done) | rfl
theorem own_pn6 : plainName "java/lang/Integer" = true := by first | (simp [plainName, overriddenIn]; done) | decide +kernel
set_option maxRecDepth 65536 in
set_option maxHeartbeats 40000000 in
theorem own_ii (l : Launch) (Z : State) (a0 : Array Value) (hw : ∀ d ∈ tables_1, d.before a0 Z = true) (ws : List Jvm.Cond) (r : Addr) (p1 : Int32) (h0 : Heap) (n0 : Nat) (O0 : Old Z n0 h0)  (pm_E_r : Exa Z h0 r "java/lang/Integer") (pm_F_r_value : Fld Z h0 r "java/lang/Integer" "value" "I" (.int (0 : Int32))) (pm_ge_r : n0 ≤ r) :
    MetFree l (⟨"java/lang/Integer", "<init>", "(I)V"⟩ : MethodName) (head1 (Jvm.Cond.code (⟨"java/lang/Integer", "<init>", "(I)V"⟩ : MethodName) jdk_33_method_23_code 2 none :: ws) ({ frames := 2, cells := 0, slots := 0, locals := 24 } : Room)) (fun aa_ U_ => aa_ = #[(.ref r), (.int p1)] ∧ Z.Warmed39 U_.vm ∧ U_.heap = h0) (fun _ _ _ _ _ => True) (fun _ U_ oo_ UU_ => ∃ vv_ LL_, oo_ = .returned vv_ ∧ own_Q_ii Z r p1 h0 n0 vv_ UU_.heap LL_ ∧ FrameEnd U_ oo_ UU_ LL_ ({ frames := 2, cells := 0, slots := 0, locals := 24 } : Room).cells ({ frames := 2, cells := 0, slots := 0, locals := 24 } : Room).slots) := by
  refine MetFree.of_bodySF (plainFor_of_name own_pn6) hisR ?_
  intro p e s m args below meth c s₁ Bd hml0 hP hK
  obtain ⟨rfl, hZ, hh⟩ := hP
  have hx := Bd.exec
  have hby := Bd.bytes
  have hml : c.maxLocals = 2 := hml0
  have hown : s.vm.findClass "java/lang/Integer" = some m.cls := findClass_of_methodNamed Bd.named
  have hnm := (name_of_methodNamed Bd.named Bd.method).1
  have X0 : Stand p l e ({ frames := 2, cells := 0, slots := 0, locals := 24 } : Room) s m #[(.ref r), (.int p1)] below meth c s₁ [] 0 0 := Stand.of_body Bd
  have e0 : s₁.heap = h0 := by rw [← hh, Bd.state]; rfl
  have N0 := Fr.nil n0
  have pre0 : ∀ tt_, Steps p.tables e below (s₁.setTop (mkF m 0 #[.val (.ref r), .val (.int p1)] [])) tt_ → Steps p.tables e below (s₁.setTop (entryFrame m #[(.ref r), (.int p1)] 2)) tt_ := fun tt_ kk_ => castTop (own_ef20 m r p1) kk_
  obtain ⟨_, _, ⟨T1, L1, k1, n1⟩, -, X1, ⟨Lc1, hQ1, l1, y1, z1⟩, st1⟩ := X0.specialBack hx (y := (⟨"java/lang/Number", "<init>", "()V"⟩ : MethodName)) rfl hown (mvT hZ (hw _ (List.mem_of_getElem? (i := 160) rfl))) (mvT hZ (hw _ (List.mem_of_getElem? (i := 161) rfl))) (mvT hZ (hw _ (List.mem_of_getElem? (i := 165) rfl))) (by decide) (backOf (W := 0) (own_ni l Z a0 hw [] r h0 n0 O0  ) hZ (hw _ (List.mem_of_getElem? (i := 165) rfl)) (hw _ (List.mem_of_getElem? (i := 164) rfl)) (by decide) (by decide)) (g := (mkF m 1 #[.val (.ref r), .val (.int p1)] [(.ref r)])) rfl (by rw [hml]; rfl) (Steps.refl _) (a := r) (argsL := []) (rest := []) (lenOf own_pd0 rfl) rfl (by show 2 * 0 + _ ≤ _; exact Nat.le_of_eq rfl) (hb hby own_d20_1) (fun _ _ => ⟨rfl, e0, (by decide : 0 + 0 ≤ _), (by decide : 0 + 0 ≤ _)⟩)
  dsimp only [Pt.U, Pt.locs, Pt.cells, Pt.slots] at X1 l1 y1 z1 st1 hQ1
  subst l1 y1 z1
  obtain ⟨rfl, rfl, e1⟩ := hQ1
  try rw [List.append_nil] at X1
  obtain ⟨T2, h2, X2, e2, W2, st2⟩ := putF X1 hx hZ hown (host := "") (Or.inl (hw _ (List.mem_of_getElem? (i := 144) rfl))) Via.refl e1 pm_F_r_value pm_E_r (Or.inr ⟨(hw _ (List.mem_of_getElem? (i := 145) rfl)), rfl, hnm⟩) (hw _ (List.mem_of_getElem? (i := 156) rfl)) (ty := .int) (by decide) rfl rfl (g := (mkF m 6 #[.val (.ref r), .val (.int p1)] [(.int p1), (.ref r)])) rfl rfl (hb hby own_d20_6)
  have f2_E_r := pm_E_r.wr W2
  have f2_F_r_value := pm_F_r_value.same W2
  have O2 := O0.wr W2 pm_ge_r
  have KC2 := (Keep.refl h0 [r]).wr W2 (Or.inl (List.mem_of_getElem? (i := 0) rfl))
  have N2 := Fr.snoc X2 N0 pm_ge_r
  obtain ⟨fs, hr, hrun, hended, hW, hsame⟩ := X2.leave (v := none) (fun _ => rfl)
  refine ⟨_, _, pre0 _ ?_, hrun, hended, _, _, rfl, ?_, ⟨_, rfl⟩, hW, hsame.mono (by decide) (by decide)⟩
  · show Steps p.tables e below (s₁.setTop (mkF m 0 #[.val (.ref r), .val (.int p1)] [])) _
    refine XS.aloadN X0.here hx rfl (hb hby own_d20_0) rfl rfl ?_
    show Steps p.tables e below (s₁.setTop (mkF m 1 #[.val (.ref r), .val (.int p1)] [(.ref r)])) _
    refine st1.trans ?_
    show Steps p.tables e below (T1.setTop (mkF m 4 #[.val (.ref r), .val (.int p1)] [])) _
    refine XS.aloadN X1.here hx rfl (hb hby own_d20_4) rfl rfl ?_
    show Steps p.tables e below (T1.setTop (mkF m 5 #[.val (.ref r), .val (.int p1)] [(.ref r)])) _
    refine XS.iloadN X1.here hx rfl (hb hby own_d20_5) rfl ?_
    show Steps p.tables e below (T1.setTop (mkF m 6 #[.val (.ref r), .val (.int p1)] [(.int p1), (.ref r)])) _
    refine st2 _ ?_
    show Steps p.tables e below (T2.setTop (mkF m 9 #[.val (.ref r), .val (.int p1)] [])) _
    exact X2.returnOut hx Bd.returns (hb hby own_d20_9) hr
  · show own_Q_ii Z r p1 h0 n0 _ T2.heap _
    rw [e2]
    exact ⟨rfl, N2, O2, KC2, f2_E_r, f2_F_r_value⟩
theorem own_d18_0 : decode jdk_33_method_27_code 0 = .ok (.aload_n 0, 1) := by decide +kernel
theorem own_d18_1 : decode jdk_33_method_27_code 1 = .ok (.getfield 205, 3) := by decide +kernel
theorem own_d18_4 : decode jdk_33_method_27_code 4 = .ok (.ireturn, 1) := by decide +kernel
def own_Q_iv (Z : State) (r : Addr) (i : Int32) (h0 : Heap) (n0 : Nat) (vv_ : Option Value) (hh_ : Heap) (LL_ : List Loc) : Prop := vv_ = some (.int i) ∧ LL_ = [] ∧ hh_ = h0
theorem own_ef18 (m : MethodId) (x0 : Addr) : entryFrame m #[(.ref x0)] 1 = mkF m 0 #[.val (.ref x0)] [] := by first | (simp [entryFrame, mkF, argsToLocals, Value.category]; done) | rfl
set_option maxRecDepth 65536 in
set_option maxHeartbeats 40000000 in
theorem own_iv (l : Launch) (Z : State) (a0 : Array Value) (hw : ∀ d ∈ tables_1, d.before a0 Z = true) (ws : List Jvm.Cond) (r : Addr) (i : Int32) (h0 : Heap) (n0 : Nat) (O0 : Old Z n0 h0)  (pm_F_r_value : Fld Z h0 r "java/lang/Integer" "value" "I" (.int i)) :
    MetFree l (⟨"java/lang/Integer", "intValue", "()I"⟩ : MethodName) (head1 (Jvm.Cond.code (⟨"java/lang/Integer", "intValue", "()I"⟩ : MethodName) jdk_33_method_27_code 1 (some .int) :: ws) ({ frames := 0, cells := 0, slots := 0, locals := 0 } : Room)) (fun aa_ U_ => aa_ = #[(.ref r)] ∧ Z.Warmed39 U_.vm ∧ U_.heap = h0) (fun _ _ _ _ _ => True) (fun _ U_ oo_ UU_ => ∃ vv_ LL_, oo_ = .returned vv_ ∧ own_Q_iv Z r i h0 n0 vv_ UU_.heap LL_ ∧ FrameEnd U_ oo_ UU_ LL_ ({ frames := 0, cells := 0, slots := 0, locals := 0 } : Room).cells ({ frames := 0, cells := 0, slots := 0, locals := 0 } : Room).slots) := by
  refine MetFree.of_bodySF (plainFor_of_name own_pn6) hisR ?_
  intro p e s m args below meth c s₁ Bd hml0 hP hK
  obtain ⟨rfl, hZ, hh⟩ := hP
  have hx := Bd.exec
  have hby := Bd.bytes
  have hml : c.maxLocals = 1 := hml0
  have hown : s.vm.findClass "java/lang/Integer" = some m.cls := findClass_of_methodNamed Bd.named
  have hnm := (name_of_methodNamed Bd.named Bd.method).1
  have X0 : Stand p l e ({ frames := 0, cells := 0, slots := 0, locals := 0 } : Room) s m #[(.ref r)] below meth c s₁ [] 0 0 := Stand.of_body Bd
  have e0 : s₁.heap = h0 := by rw [← hh, Bd.state]; rfl
  have N0 := Fr.nil n0
  have pre0 : ∀ tt_, Steps p.tables e below (s₁.setTop (mkF m 0 #[.val (.ref r)] [])) tt_ → Steps p.tables e below (s₁.setTop (entryFrame m #[(.ref r)] 1)) tt_ := fun tt_ kk_ => castTop (own_ef18 m r) kk_
  obtain ⟨T1, X1, e1, st1⟩ := getF X0 hx hZ hown (host := "") (Or.inl (hw _ (List.mem_of_getElem? (i := 144) rfl))) Via.refl e0 pm_F_r_value (g := (mkF m 1 #[.val (.ref r)] [(.ref r)])) rfl rfl (hb hby own_d18_1)
  obtain ⟨fs, hr, hrun, hended, hW, hsame⟩ := X1.leave (v := some (.int i)) (fun h => by rw [Bd.returns] at h; cases h)
  refine ⟨_, _, pre0 _ ?_, hrun, hended, _, _, rfl, ?_, ⟨_, rfl⟩, hW, hsame.mono (by decide) (by decide)⟩
  · show Steps p.tables e below (s₁.setTop (mkF m 0 #[.val (.ref r)] [])) _
    refine XS.aloadN X0.here hx rfl (hb hby own_d18_0) rfl rfl ?_
    show Steps p.tables e below (s₁.setTop (mkF m 1 #[.val (.ref r)] [(.ref r)])) _
    refine st1 _ ?_
    show Steps p.tables e below (T1.setTop (mkF m 4 #[.val (.ref r)] [(.int i)])) _
    exact retI X1 hx Bd.returns (hb hby own_d18_4) hr
  · show own_Q_iv Z r i h0 n0 _ T1.heap _
    rw [e1]
    exact ⟨rfl, rfl, rfl⟩
def own_Q_val (Z : State) (h0 : Heap) (n0 : Nat) (p1 : Int32) (v : Option Value) (h : Heap) (L : List Loc) : Prop := ∃ r : Addr, v = some (.ref r) ∧ Fr n0 L ∧ Old Z n0 h ∧ Keep h0 h [] ∧ Exa Z h r "java/lang/Integer" ∧ Fld Z h r "java/lang/Integer" "value" "I" (.int p1)
theorem own_ci {p : Int32} (h1 : ¬ (p < (-128 : Int32))) (h2 : ¬ ((127 : Int32) < p)) : (p + (128 : Int32)).toInt = p.toInt + 128 ∧ 0 ≤ p.toInt + 128 ∧ p.toInt + 128 < 256 := by
  rw [Int32.lt_iff_toInt_lt] at h1 h2
  have e1 : (-128 : Int32).toInt = -128 := by decide
  have e2 : (127 : Int32).toInt = 127 := by decide
  have e3 : (128 : Int32).toInt = 128 := by decide
  have h := c_iadd p (128 : Int32); have h3 := rng32 (p + (128 : Int32))
  rw [e1] at h1; rw [e2] at h2; rw [e3] at h
  omega
theorem own_cv {p : Int32} (h1 : ¬ (p < (-128 : Int32))) (h2 : ¬ ((127 : Int32) < p)) : Int32.ofNat (p + (128 : Int32)).toNatClampNeg - (128 : Int32) = p := by
  obtain ⟨a, b, c⟩ := own_ci h1 h2
  have e : (p + (128 : Int32)).toNatClampNeg = (p.toInt + 128).toNat := by simp only [Int32.toNatClampNeg, a]
  apply Int32.toInt_inj.mp
  have h := c_isub (Int32.ofNat (p + (128 : Int32)).toNatClampNeg) (128 : Int32)
  have h3 := rng32 (Int32.ofNat (p + (128 : Int32)).toNatClampNeg - (128 : Int32))
  have h4 := Int32.toInt_ofNat_of_lt (n := (p + (128 : Int32)).toNatClampNeg) (by rw [e]; omega)
  have e3 : (128 : Int32).toInt = 128 := by decide
  have h5 := rng32 p
  rw [h4, e3] at h; rw [e] at h h3 ⊢; omega
theorem own_d5_0 : decode jdk_33_method_22_code 0 = .ok (.iload_n 0, 1) := by decide +kernel
theorem own_d5_1 : decode jdk_33_method_22_code 1 = .ok (.bipush (-128), 2) := by decide +kernel
theorem own_d5_3 : decode jdk_33_method_22_code 3 = .ok (.if_icmp .lt 20, 3) := by decide +kernel
theorem own_d5_23 : decode jdk_33_method_22_code 23 = .ok (.new 1, 3) := by decide +kernel
theorem own_d5_26 : decode jdk_33_method_22_code 26 = .ok (.dup, 1) := by decide +kernel
theorem own_d5_27 : decode jdk_33_method_22_code 27 = .ok (.iload_n 0, 1) := by decide +kernel
theorem own_d5_28 : decode jdk_33_method_22_code 28 = .ok (.invokespecial 199, 3) := by decide +kernel
theorem own_pd7 : parseMethodDescriptor "(I)V" = some ⟨[.int], none⟩ := by decide +kernel
theorem own_d5_31 : decode jdk_33_method_22_code 31 = .ok (.areturn, 1) := by decide +kernel
theorem own_ef5 (m : MethodId) (x0 : Int32) : entryFrame m #[(.int x0)] 1 = mkF m 0 #[.val (.int x0)] [] := by first | (simp [entryFrame, mkF, argsToLocals, Value.category]; done) | rfl
set_option maxRecDepth 65536 in
set_option maxHeartbeats 40000000 in
theorem own_val1 (l : Launch) (Z : State) (a0 : Array Value) (hw : ∀ d ∈ tables_1, d.before a0 Z = true) (ws : List Jvm.Cond) (p1 : Int32) (D : Addr) (cD : Cell) (ich : Addr) (icc : Cell) (kA : Addr) (kS : Addr) (f0 : Addr) (f1 : Addr) (f2 : Addr) (f3 : Addr) (h0 : Heap) (n0 : Nat) (O0 : Old Z n0 h0) (K : own_W Z D cD ich icc kA kS f0 f1 f2 f3) (hlo : p1 < (-128 : Int32)) :
    MetFree l (⟨"java/lang/Integer", "valueOf", "(I)Ljava/lang/Integer;"⟩ : MethodName) (head1 (Jvm.Cond.code (⟨"java/lang/Integer", "valueOf", "(I)Ljava/lang/Integer;"⟩ : MethodName) jdk_33_method_22_code 1 (some (.object "java/lang/Integer")) :: ws) ({ frames := 3, cells := 1, slots := 1, locals := 38 } : Room)) (fun aa_ U_ => aa_ = #[(.int p1)] ∧ Z.Warmed39 U_.vm ∧ U_.heap = h0) (fun _ _ _ _ _ => True) (fun _ U_ oo_ UU_ => ∃ vv_ LL_, oo_ = .returned vv_ ∧ own_Q_val Z h0 n0 p1 vv_ UU_.heap LL_ ∧ FrameEnd U_ oo_ UU_ LL_ ({ frames := 3, cells := 1, slots := 1, locals := 38 } : Room).cells ({ frames := 3, cells := 1, slots := 1, locals := 38 } : Room).slots) := by
  obtain ⟨SD, AD0, zD, SH, SC, AC0, zC, vC, SA, SS, neAS, S0, S1, S2, S3⟩ := K
  refine MetFree.of_bodySF (plainFor_of_name own_pn6) hisR ?_
  intro p e s m args below meth c s₁ Bd hml0 hP hK
  obtain ⟨rfl, hZ, hh⟩ := hP
  have hx := Bd.exec
  have hby := Bd.bytes
  have hml : c.maxLocals = 1 := hml0
  have hown : s.vm.findClass "java/lang/Integer" = some m.cls := findClass_of_methodNamed Bd.named
  have hnm := (name_of_methodNamed Bd.named Bd.method).1
  have X0 : Stand p l e ({ frames := 3, cells := 1, slots := 1, locals := 38 } : Room) s m #[(.int p1)] below meth c s₁ [] 0 0 := Stand.of_body Bd
  have e0 : s₁.heap = h0 := by rw [← hh, Bd.state]; rfl
  have N0 := Fr.nil n0
  have pre0 : ∀ tt_, Steps p.tables e below (s₁.setTop (mkF m 0 #[.val (.int p1)] [])) tt_ → Steps p.tables e below (s₁.setTop (entryFrame m #[(.int p1)] 1)) tt_ := fun tt_ kk_ => castTop (own_ef5 m p1) kk_
  obtain ⟨T1, h1, X1, e1, E1, A1, D1, -, st1⟩ := newO X0 hx hZ hown (hw _ (List.mem_of_getElem? (i := 155) rfl)) (hw _ (List.mem_of_getElem? (i := 156) rfl)) (hw _ (List.mem_of_getElem? (i := 28) rfl)) e0 (g := (mkF m 23 #[.val (.int p1)] [])) rfl (hb hby own_d5_23) (by decide) (by decide)
  obtain ⟨r, g1⟩ : ∃ z, z = h0.size := ⟨_, rfl⟩
  have g_r : n0 ≤ r := Nat.le_trans (Nat.le_trans (Nat.le_of_eq O0.1.symm) O0.2.1) (Nat.le_of_eq g1.symm)
  have sz_r : h0.size ≤ r := Nat.le_trans (Keep.refl h0 []).1 (Nat.le_of_eq g1.symm)
  rw [← g1] at A1 D1 st1
  have O1 := O0.ext E1
  have KC1 := (Keep.refl h0 []).ext E1
  have F1_value : Fld Z h1 r "java/lang/Integer" "value" "I" (.int (0 : Int32)) := D1 (Or.inr (hw _ (List.mem_of_getElem? (i := 145) rfl))) (ty := .int) (by decide)
  obtain ⟨_, _, ⟨T2, L2, k2, n2⟩, -, X2, ⟨Lc2, hQ2, l2, y2, z2⟩, st2⟩ := X1.specialBack hx (y := (⟨"java/lang/Integer", "<init>", "(I)V"⟩ : MethodName)) rfl hown (mvT hZ (hw _ (List.mem_of_getElem? (i := 157) rfl))) (mvT hZ (hw _ (List.mem_of_getElem? (i := 158) rfl))) (mvT hZ (hw _ (List.mem_of_getElem? (i := 159) rfl))) (by decide) (backOf (W := 1) (own_ii l Z a0 hw [] r p1 h1 n0 O1  A1 F1_value g_r) hZ (hw _ (List.mem_of_getElem? (i := 159) rfl)) (hw _ (List.mem_of_getElem? (i := 28) rfl)) (by decide) (by decide)) (g := (mkF m 28 #[.val (.int p1)] [(.int p1), (.ref r), (.ref r)])) rfl (by rw [hml]; rfl) (Steps.refl _) (a := r) (argsL := [(.int p1)]) (rest := [(.ref r)]) (lenOf own_pd7 rfl) rfl (by show 2 * 0 + _ ≤ _; exact Nat.le_of_eq rfl) (hb hby own_d5_28) (fun _ _ => ⟨rfl, e1, (by decide : 1 + 0 ≤ _), (by decide : 1 + 0 ≤ _)⟩)
  dsimp only [Pt.U, Pt.locs, Pt.cells, Pt.slots] at X2 l2 y2 z2 st2 hQ2
  subst l2 y2 z2
  obtain ⟨rfl, N2q, O2, K2, p2_E_r, p2_F_r_value⟩ := hQ2
  have N2 := Fr.app N0 N2q
  have KC2 := KC1.trans K2 (allS (Or.inr sz_r) all0)
  obtain ⟨fs, hr, hrun, hended, hW, hsame⟩ := X2.leave (v := some (.ref r)) (fun h => by rw [Bd.returns] at h; cases h)
  refine ⟨_, _, pre0 _ ?_, hrun, hended, _, _, rfl, ?_, ⟨_, rfl⟩, hW, hsame.mono (by decide) (by decide)⟩
  · show Steps p.tables e below (s₁.setTop (mkF m 0 #[.val (.int p1)] [])) _
    refine XS.iloadN X0.here hx rfl (hb hby own_d5_0) rfl ?_
    show Steps p.tables e below (s₁.setTop (mkF m 1 #[.val (.int p1)] [(.int p1)])) _
    refine XS.bipush X0.here hx rfl (hb hby own_d5_1) ?_
    show Steps p.tables e below (s₁.setTop (mkF m 3 #[.val (.int p1)] [(.int (-128 : Int32)), (.int p1)])) _
    refine XS.icmpYes X0.here hx rfl (pc0 := 3) (pc' := 23) rfl (hb hby own_d5_3) rfl (tlt hlo).1 (by decide) (by decide) ?_
    show Steps p.tables e below (s₁.setTop (mkF m 23 #[.val (.int p1)] [])) _
    refine st1 _ ?_
    show Steps p.tables e below (T1.setTop (mkF m 26 #[.val (.int p1)] [(.ref r)])) _
    refine XS.dup X1.here hx rfl (hb hby own_d5_26) rfl rfl ?_
    show Steps p.tables e below (T1.setTop (mkF m 27 #[.val (.int p1)] [(.ref r), (.ref r)])) _
    refine XS.iloadN X1.here hx rfl (hb hby own_d5_27) rfl ?_
    show Steps p.tables e below (T1.setTop (mkF m 28 #[.val (.int p1)] [(.int p1), (.ref r), (.ref r)])) _
    refine st2.trans ?_
    show Steps p.tables e below (T2.setTop (mkF m 31 #[.val (.int p1)] [(.ref r)])) _
    jvm_step X2.here [X2.here.top, hx, (hb hby own_d5_31), X2.method', Bd.returns, Value.isRef, FieldType.isReference]
    first | (intro acts; rw [hr _ acts rfl rfl rfl]) | rw [hr _ _ rfl rfl rfl]
    exact Steps.refl _
  · show own_Q_val Z h0 n0 p1 _ T2.heap _
    exact ⟨r, rfl, N2, O2, KC2, p2_E_r, p2_F_r_value⟩
theorem own_d5_6 : decode jdk_33_method_22_code 6 = .ok (.iload_n 0, 1) := by decide +kernel
theorem own_d5_7 : decode jdk_33_method_22_code 7 = .ok (.getstatic 191, 3) := by decide +kernel
theorem own_d5_10 : decode jdk_33_method_22_code 10 = .ok (.if_icmp .gt 13, 3) := by decide +kernel
set_option maxRecDepth 65536 in
set_option maxHeartbeats 40000000 in
theorem own_val2 (l : Launch) (Z : State) (a0 : Array Value) (hw : ∀ d ∈ tables_1, d.before a0 Z = true) (ws : List Jvm.Cond) (p1 : Int32) (D : Addr) (cD : Cell) (ich : Addr) (icc : Cell) (kA : Addr) (kS : Addr) (f0 : Addr) (f1 : Addr) (f2 : Addr) (f3 : Addr) (h0 : Heap) (n0 : Nat) (O0 : Old Z n0 h0) (K : own_W Z D cD ich icc kA kS f0 f1 f2 f3) (hlo : ¬ (p1 < (-128 : Int32))) (hhi : (127 : Int32) < p1) :
    MetFree l (⟨"java/lang/Integer", "valueOf", "(I)Ljava/lang/Integer;"⟩ : MethodName) (head1 (Jvm.Cond.code (⟨"java/lang/Integer", "valueOf", "(I)Ljava/lang/Integer;"⟩ : MethodName) jdk_33_method_22_code 1 (some (.object "java/lang/Integer")) :: ws) ({ frames := 3, cells := 1, slots := 1, locals := 38 } : Room)) (fun aa_ U_ => aa_ = #[(.int p1)] ∧ Z.Warmed39 U_.vm ∧ U_.heap = h0) (fun _ _ _ _ _ => True) (fun _ U_ oo_ UU_ => ∃ vv_ LL_, oo_ = .returned vv_ ∧ own_Q_val Z h0 n0 p1 vv_ UU_.heap LL_ ∧ FrameEnd U_ oo_ UU_ LL_ ({ frames := 3, cells := 1, slots := 1, locals := 38 } : Room).cells ({ frames := 3, cells := 1, slots := 1, locals := 38 } : Room).slots) := by
  obtain ⟨SD, AD0, zD, SH, SC, AC0, zC, vC, SA, SS, neAS, S0, S1, S2, S3⟩ := K
  refine MetFree.of_bodySF (plainFor_of_name own_pn6) hisR ?_
  intro p e s m args below meth c s₁ Bd hml0 hP hK
  obtain ⟨rfl, hZ, hh⟩ := hP
  have hx := Bd.exec
  have hby := Bd.bytes
  have hml : c.maxLocals = 1 := hml0
  have hown : s.vm.findClass "java/lang/Integer" = some m.cls := findClass_of_methodNamed Bd.named
  have hnm := (name_of_methodNamed Bd.named Bd.method).1
  have X0 : Stand p l e ({ frames := 3, cells := 1, slots := 1, locals := 38 } : Room) s m #[(.int p1)] below meth c s₁ [] 0 0 := Stand.of_body Bd
  have e0 : s₁.heap = h0 := by rw [← hh, Bd.state]; rfl
  have N0 := Fr.nil n0
  have pre0 : ∀ tt_, Steps p.tables e below (s₁.setTop (mkF m 0 #[.val (.int p1)] [])) tt_ → Steps p.tables e below (s₁.setTop (entryFrame m #[(.int p1)] 1)) tt_ := fun tt_ kk_ => castTop (own_ef5 m p1) kk_
  obtain ⟨T1, X1, e1, st1⟩ := getS2 X0 hx hZ hown (host := "") (Or.inl (hw _ (List.mem_of_getElem? (i := 30) rfl))) Via.refl e0 (SH.ext O0.2) (g := (mkF m 7 #[.val (.int p1)] [(.int p1)])) rfl (hb hby own_d5_7)
  obtain ⟨T2, h2, X2, e2, E2, A2, D2, -, st2⟩ := newO X1 hx hZ hown (hw _ (List.mem_of_getElem? (i := 155) rfl)) (hw _ (List.mem_of_getElem? (i := 156) rfl)) (hw _ (List.mem_of_getElem? (i := 28) rfl)) e1 (g := (mkF m 23 #[.val (.int p1)] [])) rfl (hb hby own_d5_23) (by decide) (by decide)
  obtain ⟨r, g2⟩ : ∃ z, z = h0.size := ⟨_, rfl⟩
  have g_r : n0 ≤ r := Nat.le_trans (Nat.le_trans (Nat.le_of_eq O0.1.symm) O0.2.1) (Nat.le_of_eq g2.symm)
  have sz_r : h0.size ≤ r := Nat.le_trans (Keep.refl h0 []).1 (Nat.le_of_eq g2.symm)
  rw [← g2] at A2 D2 st2
  have O2 := O0.ext E2
  have KC2 := (Keep.refl h0 []).ext E2
  have F2_value : Fld Z h2 r "java/lang/Integer" "value" "I" (.int (0 : Int32)) := D2 (Or.inr (hw _ (List.mem_of_getElem? (i := 145) rfl))) (ty := .int) (by decide)
  obtain ⟨_, _, ⟨T3, L3, k3, n3⟩, -, X3, ⟨Lc3, hQ3, l3, y3, z3⟩, st3⟩ := X2.specialBack hx (y := (⟨"java/lang/Integer", "<init>", "(I)V"⟩ : MethodName)) rfl hown (mvT hZ (hw _ (List.mem_of_getElem? (i := 157) rfl))) (mvT hZ (hw _ (List.mem_of_getElem? (i := 158) rfl))) (mvT hZ (hw _ (List.mem_of_getElem? (i := 159) rfl))) (by decide) (backOf (W := 1) (own_ii l Z a0 hw [] r p1 h2 n0 O2  A2 F2_value g_r) hZ (hw _ (List.mem_of_getElem? (i := 159) rfl)) (hw _ (List.mem_of_getElem? (i := 28) rfl)) (by decide) (by decide)) (g := (mkF m 28 #[.val (.int p1)] [(.int p1), (.ref r), (.ref r)])) rfl (by rw [hml]; rfl) (Steps.refl _) (a := r) (argsL := [(.int p1)]) (rest := [(.ref r)]) (lenOf own_pd7 rfl) rfl (by show 2 * 0 + _ ≤ _; exact Nat.le_of_eq rfl) (hb hby own_d5_28) (fun _ _ => ⟨rfl, e2, (by decide : 1 + 0 ≤ _), (by decide : 1 + 0 ≤ _)⟩)
  dsimp only [Pt.U, Pt.locs, Pt.cells, Pt.slots] at X3 l3 y3 z3 st3 hQ3
  subst l3 y3 z3
  obtain ⟨rfl, N3q, O3, K3, p3_E_r, p3_F_r_value⟩ := hQ3
  have N3 := Fr.app N0 N3q
  have KC3 := KC2.trans K3 (allS (Or.inr sz_r) all0)
  obtain ⟨fs, hr, hrun, hended, hW, hsame⟩ := X3.leave (v := some (.ref r)) (fun h => by rw [Bd.returns] at h; cases h)
  refine ⟨_, _, pre0 _ ?_, hrun, hended, _, _, rfl, ?_, ⟨_, rfl⟩, hW, hsame.mono (by decide) (by decide)⟩
  · show Steps p.tables e below (s₁.setTop (mkF m 0 #[.val (.int p1)] [])) _
    refine XS.iloadN X0.here hx rfl (hb hby own_d5_0) rfl ?_
    show Steps p.tables e below (s₁.setTop (mkF m 1 #[.val (.int p1)] [(.int p1)])) _
    refine XS.bipush X0.here hx rfl (hb hby own_d5_1) ?_
    show Steps p.tables e below (s₁.setTop (mkF m 3 #[.val (.int p1)] [(.int (-128 : Int32)), (.int p1)])) _
    refine XS.icmpNo X0.here hx rfl (hb hby own_d5_3) rfl (flt hlo).1 ?_
    show Steps p.tables e below (s₁.setTop (mkF m 6 #[.val (.int p1)] [])) _
    refine XS.iloadN X0.here hx rfl (hb hby own_d5_6) rfl ?_
    show Steps p.tables e below (s₁.setTop (mkF m 7 #[.val (.int p1)] [(.int p1)])) _
    refine st1 _ ?_
    show Steps p.tables e below (T1.setTop (mkF m 10 #[.val (.int p1)] [(.int (127 : Int32)), (.int p1)])) _
    refine XS.icmpYes X1.here hx rfl (pc0 := 10) (pc' := 23) rfl (hb hby own_d5_10) rfl (tlt hhi).2.2.1 (by decide) (by decide) ?_
    show Steps p.tables e below (T1.setTop (mkF m 23 #[.val (.int p1)] [])) _
    refine st2 _ ?_
    show Steps p.tables e below (T2.setTop (mkF m 26 #[.val (.int p1)] [(.ref r)])) _
    refine XS.dup X2.here hx rfl (hb hby own_d5_26) rfl rfl ?_
    show Steps p.tables e below (T2.setTop (mkF m 27 #[.val (.int p1)] [(.ref r), (.ref r)])) _
    refine XS.iloadN X2.here hx rfl (hb hby own_d5_27) rfl ?_
    show Steps p.tables e below (T2.setTop (mkF m 28 #[.val (.int p1)] [(.int p1), (.ref r), (.ref r)])) _
    refine st3.trans ?_
    show Steps p.tables e below (T3.setTop (mkF m 31 #[.val (.int p1)] [(.ref r)])) _
    jvm_step X3.here [X3.here.top, hx, (hb hby own_d5_31), X3.method', Bd.returns, Value.isRef, FieldType.isReference]
    first | (intro acts; rw [hr _ acts rfl rfl rfl]) | rw [hr _ _ rfl rfl rfl]
    exact Steps.refl _
  · show own_Q_val Z h0 n0 p1 _ T3.heap _
    exact ⟨r, rfl, N3, O3, KC3, p3_E_r, p3_F_r_value⟩
theorem own_d5_13 : decode jdk_33_method_22_code 13 = .ok (.getstatic 195, 3) := by decide +kernel
theorem own_d5_16 : decode jdk_33_method_22_code 16 = .ok (.iload_n 0, 1) := by decide +kernel
theorem own_d5_17 : decode jdk_33_method_22_code 17 = .ok (.sipush 128, 3) := by decide +kernel
theorem own_d5_20 : decode jdk_33_method_22_code 20 = .ok (.iadd, 1) := by decide +kernel
theorem own_d5_21 : decode jdk_33_method_22_code 21 = .ok (.aaload, 1) := by decide +kernel
theorem own_d5_22 : decode jdk_33_method_22_code 22 = .ok (.areturn, 1) := by decide +kernel
set_option maxRecDepth 65536 in
set_option maxHeartbeats 40000000 in
theorem own_val3 (l : Launch) (Z : State) (a0 : Array Value) (hw : ∀ d ∈ tables_1, d.before a0 Z = true) (ws : List Jvm.Cond) (p1 : Int32) (D : Addr) (cD : Cell) (ich : Addr) (icc : Cell) (kA : Addr) (kS : Addr) (f0 : Addr) (f1 : Addr) (f2 : Addr) (f3 : Addr) (h0 : Heap) (n0 : Nat) (O0 : Old Z n0 h0) (K : own_W Z D cD ich icc kA kS f0 f1 f2 f3) (hlo : ¬ (p1 < (-128 : Int32))) (hhi : ¬ ((127 : Int32) < p1)) :
    MetFree l (⟨"java/lang/Integer", "valueOf", "(I)Ljava/lang/Integer;"⟩ : MethodName) (head1 (Jvm.Cond.code (⟨"java/lang/Integer", "valueOf", "(I)Ljava/lang/Integer;"⟩ : MethodName) jdk_33_method_22_code 1 (some (.object "java/lang/Integer")) :: ws) ({ frames := 3, cells := 1, slots := 1, locals := 38 } : Room)) (fun aa_ U_ => aa_ = #[(.int p1)] ∧ Z.Warmed39 U_.vm ∧ U_.heap = h0) (fun _ _ _ _ _ => True) (fun _ U_ oo_ UU_ => ∃ vv_ LL_, oo_ = .returned vv_ ∧ own_Q_val Z h0 n0 p1 vv_ UU_.heap LL_ ∧ FrameEnd U_ oo_ UU_ LL_ ({ frames := 3, cells := 1, slots := 1, locals := 38 } : Room).cells ({ frames := 3, cells := 1, slots := 1, locals := 38 } : Room).slots) := by
  obtain ⟨SD, AD0, zD, SH, SC, AC0, zC, vC, SA, SS, neAS, S0, S1, S2, S3⟩ := K
  refine MetFree.of_bodySF (plainFor_of_name own_pn6) hisR ?_
  intro p e s m args below meth c s₁ Bd hml0 hP hK
  obtain ⟨rfl, hZ, hh⟩ := hP
  have hx := Bd.exec
  have hby := Bd.bytes
  have hml : c.maxLocals = 1 := hml0
  have hown : s.vm.findClass "java/lang/Integer" = some m.cls := findClass_of_methodNamed Bd.named
  have hnm := (name_of_methodNamed Bd.named Bd.method).1
  have X0 : Stand p l e ({ frames := 3, cells := 1, slots := 1, locals := 38 } : Room) s m #[(.int p1)] below meth c s₁ [] 0 0 := Stand.of_body Bd
  have e0 : s₁.heap = h0 := by rw [← hh, Bd.state]; rfl
  have N0 := Fr.nil n0
  have pre0 : ∀ tt_, Steps p.tables e below (s₁.setTop (mkF m 0 #[.val (.int p1)] [])) tt_ → Steps p.tables e below (s₁.setTop (entryFrame m #[(.int p1)] 1)) tt_ := fun tt_ kk_ => castTop (own_ef5 m p1) kk_
  obtain ⟨T1, X1, e1, st1⟩ := getS2 X0 hx hZ hown (host := "") (Or.inl (hw _ (List.mem_of_getElem? (i := 30) rfl))) Via.refl e0 (SH.ext O0.2) (g := (mkF m 7 #[.val (.int p1)] [(.int p1)])) rfl (hb hby own_d5_7)
  obtain ⟨T2, X2, e2, st2⟩ := getS2 X1 hx hZ hown (host := "") (Or.inl (hw _ (List.mem_of_getElem? (i := 32) rfl))) Via.refl e1 (SC.ext O0.2) (g := (mkF m 13 #[.val (.int p1)] [])) rfl (hb hby own_d5_13)
  obtain ⟨q1, q2, q3⟩ := own_ci hlo hhi
  obtain ⟨r, hat, Er, Fr0⟩ := vC (p1 + (128 : Int32)).toNatClampNeg (by simp only [Int32.toNatClampNeg, q1]; omega)
  rw [own_cv hlo hhi] at Fr0
  have hin : ¬ ((p1 + (128 : Int32)) < 0 ∨ icc.slots.size ≤ (p1 + (128 : Int32)).toNatClampNeg) := by rw [zC, Int32.lt_iff_toInt_lt, show (0 : Int32).toInt = 0 from by decide]; simp only [Int32.toNatClampNeg, q1]; omega
  have AC := AC0.ext O0.2
  obtain ⟨fs, hr, hrun, hended, hW, hsame⟩ := X2.leave (v := some (.ref r)) (fun h => by rw [Bd.returns] at h; cases h)
  refine ⟨_, _, pre0 _ ?_, hrun, hended, _, _, rfl, ?_, ⟨_, rfl⟩, hW, hsame.mono (by decide) (by decide)⟩
  · show Steps p.tables e below (s₁.setTop (mkF m 0 #[.val (.int p1)] [])) _
    refine XS.iloadN X0.here hx rfl (hb hby own_d5_0) rfl ?_
    show Steps p.tables e below (s₁.setTop (mkF m 1 #[.val (.int p1)] [(.int p1)])) _
    refine XS.bipush X0.here hx rfl (hb hby own_d5_1) ?_
    show Steps p.tables e below (s₁.setTop (mkF m 3 #[.val (.int p1)] [(.int (-128 : Int32)), (.int p1)])) _
    refine XS.icmpNo X0.here hx rfl (hb hby own_d5_3) rfl (flt hlo).1 ?_
    show Steps p.tables e below (s₁.setTop (mkF m 6 #[.val (.int p1)] [])) _
    refine XS.iloadN X0.here hx rfl (hb hby own_d5_6) rfl ?_
    show Steps p.tables e below (s₁.setTop (mkF m 7 #[.val (.int p1)] [(.int p1)])) _
    refine st1 _ ?_
    show Steps p.tables e below (T1.setTop (mkF m 10 #[.val (.int p1)] [(.int (127 : Int32)), (.int p1)])) _
    refine XS.icmpNo X1.here hx rfl (hb hby own_d5_10) rfl (flt hhi).2.2.1 ?_
    show Steps p.tables e below (T1.setTop (mkF m 13 #[.val (.int p1)] [])) _
    refine st2 _ ?_
    show Steps p.tables e below (T2.setTop (mkF m 16 #[.val (.int p1)] [(.ref ich)])) _
    refine XS.iloadN X2.here hx rfl (hb hby own_d5_16) rfl ?_
    show Steps p.tables e below (T2.setTop (mkF m 17 #[.val (.int p1)] [(.int p1), (.ref ich)])) _
    refine XS.sipush X2.here hx rfl (hb hby own_d5_17) ?_
    show Steps p.tables e below (T2.setTop (mkF m 20 #[.val (.int p1)] [(.int (128 : Int32)), (.int p1), (.ref ich)])) _
    refine XS.iadd X2.here hx rfl (hb hby own_d5_20) rfl ?_
    show Steps p.tables e below (T2.setTop (mkF m 21 #[.val (.int p1)] [(.int (p1 + (128 : Int32))), (.ref ich)])) _
    refine X2.aaload hx (j := (p1 + (128 : Int32))) (v := (.ref r)) (ty := (.object "java/lang/Integer")) (by rw [e2]; exact AC.1) (State.isArrayOf_alike hZ.alike AC.2.1) rfl AC.2.2 hin hat (g := (mkF m 21 #[.val (.int p1)] [(.int (p1 + (128 : Int32))), (.ref ich)])) rfl rfl (hb hby own_d5_21) _ ?_
    show Steps p.tables e below (T2.setTop (mkF m 22 #[.val (.int p1)] [(.ref r)])) _
    jvm_step X2.here [X2.here.top, hx, (hb hby own_d5_22), X2.method', Bd.returns, Value.isRef, FieldType.isReference]
    first | (intro acts; rw [hr _ acts rfl rfl rfl]) | rw [hr _ _ rfl rfl rfl]
    exact Steps.refl _
  · show own_Q_val Z h0 n0 p1 _ T2.heap _
    rw [e2]
    exact ⟨r, rfl, N0, O0, Keep.refl h0 [], Er.ext O0.2, Fr0.ext O0.2⟩
theorem own_val (l : Launch) (Z : State) (a0 : Array Value) (hw : ∀ d ∈ tables_1, d.before a0 Z = true) (ws : List Jvm.Cond) (p1 : Int32) (D : Addr) (cD : Cell) (ich : Addr) (icc : Cell) (kA : Addr) (kS : Addr) (f0 : Addr) (f1 : Addr) (f2 : Addr) (f3 : Addr) (h0 : Heap) (n0 : Nat) (O0 : Old Z n0 h0) (K : own_W Z D cD ich icc kA kS f0 f1 f2 f3) :
    MetFree l (⟨"java/lang/Integer", "valueOf", "(I)Ljava/lang/Integer;"⟩ : MethodName) (head1 (Jvm.Cond.code (⟨"java/lang/Integer", "valueOf", "(I)Ljava/lang/Integer;"⟩ : MethodName) jdk_33_method_22_code 1 (some (.object "java/lang/Integer")) :: ws) ({ frames := 3, cells := 1, slots := 1, locals := 38 } : Room)) (fun a U => a = #[(.int p1)] ∧ Z.Warmed39 U.vm ∧ U.heap = h0) (fun _ _ _ _ _ => True) (fun _ U o U' => ∃ v L, o = .returned v ∧ own_Q_val Z h0 n0 p1 v U'.heap L ∧ FrameEnd U o U' L ({ frames := 3, cells := 1, slots := 1, locals := 38 } : Room).cells ({ frames := 3, cells := 1, slots := 1, locals := 38 } : Room).slots) := by
  by_cases hlo : p1 < (-128 : Int32)
  · exact own_val1 l Z a0 hw ws p1 D cD ich icc kA kS f0 f1 f2 f3 h0 n0 O0 K hlo
  · by_cases hhi : (127 : Int32) < p1
    · exact own_val2 l Z a0 hw ws p1 D cD ich icc kA kS f0 f1 f2 f3 h0 n0 O0 K hlo hhi
    · exact own_val3 l Z a0 hw ws p1 D cD ich icc kA kS f0 f1 f2 f3 h0 n0 O0 K hlo hhi
theorem own_neEA {Z : State} {h : Heap} {r a ea : Addr} {z : Int32} {vs : Nat → Value} {C : String} {a0 : Array Value} {k : Nat} (E : Exa Z h r C) (wi : (Cond.instantiable C k).before a0 Z = true) (A : own_AL Z h a ea z vs) : r ≠ ea := by
  obtain ⟨-, -, -, -, ⟨c, B, -⟩, -⟩ := A; exact ne_arr E wi B
theorem own_d12_0 : decode jdk_30_method_1_code 0 = .ok (.aload_n 0, 1) := by decide +kernel
theorem own_d12_1 : decode jdk_30_method_1_code 1 = .ok (.invokespecial 1, 3) := by decide +kernel
theorem own_d12_4 : decode jdk_30_method_1_code 4 = .ok (.return_, 1) := by decide +kernel
def own_Q_rec (Z : State) (r : Addr) (h0 : Heap) (n0 : Nat) (vv_ : Option Value) (hh_ : Heap) (LL_ : List Loc) : Prop := vv_ = none ∧ LL_ = [] ∧ hh_ = h0
theorem own_ef12 (m : MethodId) (x0 : Addr) : entryFrame m #[(.ref x0)] 1 = mkF m 0 #[.val (.ref x0)] [] := by first | (simp [entryFrame, mkF, argsToLocals, Value.category]; done) | rfl
theorem own_pn7 : plainName "java/lang/Record" = true := by first | (simp [plainName, overriddenIn]; done) | decide +kernel
set_option maxRecDepth 65536 in
set_option maxHeartbeats 40000000 in
theorem own_rec (l : Launch) (Z : State) (a0 : Array Value) (hw : ∀ d ∈ tables_1, d.before a0 Z = true) (ws : List Jvm.Cond) (r : Addr) (h0 : Heap) (n0 : Nat) (O0 : Old Z n0 h0)   :
    MetFree l (⟨"java/lang/Record", "<init>", "()V"⟩ : MethodName) (head1 (Jvm.Cond.code (⟨"java/lang/Record", "<init>", "()V"⟩ : MethodName) jdk_30_method_1_code 1 none :: ws) ({ frames := 1, cells := 0, slots := 0, locals := 12 } : Room)) (fun aa_ U_ => aa_ = #[(.ref r)] ∧ Z.Warmed39 U_.vm ∧ U_.heap = h0) (fun _ _ _ _ _ => True) (fun _ U_ oo_ UU_ => ∃ vv_ LL_, oo_ = .returned vv_ ∧ own_Q_rec Z r h0 n0 vv_ UU_.heap LL_ ∧ FrameEnd U_ oo_ UU_ LL_ ({ frames := 1, cells := 0, slots := 0, locals := 12 } : Room).cells ({ frames := 1, cells := 0, slots := 0, locals := 12 } : Room).slots) := by
  refine MetFree.of_bodySF (plainFor_of_name own_pn7) hisR ?_
  intro p e s m args below meth c s₁ Bd hml0 hP hK
  obtain ⟨rfl, hZ, hh⟩ := hP
  have hx := Bd.exec
  have hby := Bd.bytes
  have hml : c.maxLocals = 1 := hml0
  have hown : s.vm.findClass "java/lang/Record" = some m.cls := findClass_of_methodNamed Bd.named
  have hnm := (name_of_methodNamed Bd.named Bd.method).1
  have X0 : Stand p l e ({ frames := 1, cells := 0, slots := 0, locals := 12 } : Room) s m #[(.ref r)] below meth c s₁ [] 0 0 := Stand.of_body Bd
  have e0 : s₁.heap = h0 := by rw [← hh, Bd.state]; rfl
  have N0 := Fr.nil n0
  have pre0 : ∀ tt_, Steps p.tables e below (s₁.setTop (mkF m 0 #[.val (.ref r)] [])) tt_ → Steps p.tables e below (s₁.setTop (entryFrame m #[(.ref r)] 1)) tt_ := fun tt_ kk_ => castTop (own_ef12 m r) kk_
  obtain ⟨T1, X1, e1, st1⟩ := initO X0 hx hZ hown (hw _ (List.mem_of_getElem? (i := 94) rfl)) (hw _ (List.mem_of_getElem? (i := 19) rfl)) (hw _ (List.mem_of_getElem? (i := 20) rfl)) e0 (g := (mkF m 1 #[.val (.ref r)] [(.ref r)])) rfl (by rw [hml]; rfl) rfl (hb hby own_d12_1) (by decide) (W := 0) (by show 2 * 0 + _ ≤ _; exact Nat.le_of_eq rfl) (by decide)
  obtain ⟨fs, hr, hrun, hended, hW, hsame⟩ := X1.leave (v := none) (fun _ => rfl)
  refine ⟨_, _, pre0 _ ?_, hrun, hended, _, _, rfl, ?_, ⟨_, rfl⟩, hW, hsame.mono (by decide) (by decide)⟩
  · show Steps p.tables e below (s₁.setTop (mkF m 0 #[.val (.ref r)] [])) _
    refine XS.aloadN X0.here hx rfl (hb hby own_d12_0) rfl rfl ?_
    show Steps p.tables e below (s₁.setTop (mkF m 1 #[.val (.ref r)] [(.ref r)])) _
    refine st1 _ ?_
    show Steps p.tables e below (T1.setTop (mkF m 4 #[.val (.ref r)] [])) _
    exact X1.returnOut hx Bd.returns (hb hby own_d12_4) hr
  · show own_Q_rec Z r h0 n0 _ T1.heap _
    rw [e1]
    exact ⟨rfl, rfl, rfl⟩
theorem own_d11_0 : decode prog_64_method_1_code 0 = .ok (.aload_n 0, 1) := by decide +kernel
theorem own_d11_1 : decode prog_64_method_1_code 1 = .ok (.invokespecial 1, 3) := by decide +kernel
theorem own_d11_4 : decode prog_64_method_1_code 4 = .ok (.aload_n 0, 1) := by decide +kernel
theorem own_d11_5 : decode prog_64_method_1_code 5 = .ok (.iload_n 1, 1) := by decide +kernel
theorem own_d11_6 : decode prog_64_method_1_code 6 = .ok (.putfield 7, 3) := by decide +kernel
theorem own_d11_9 : decode prog_64_method_1_code 9 = .ok (.aload_n 0, 1) := by decide +kernel
theorem own_d11_10 : decode prog_64_method_1_code 10 = .ok (.aload_n 2, 1) := by decide +kernel
theorem own_d11_11 : decode prog_64_method_1_code 11 = .ok (.putfield 13, 3) := by decide +kernel
theorem own_d11_14 : decode prog_64_method_1_code 14 = .ok (.aload_n 0, 1) := by decide +kernel
theorem own_d11_15 : decode prog_64_method_1_code 15 = .ok (.aload_n 3, 1) := by decide +kernel
theorem own_d11_16 : decode prog_64_method_1_code 16 = .ok (.putfield 17, 3) := by decide +kernel
theorem own_d11_19 : decode prog_64_method_1_code 19 = .ok (.aload_n 0, 1) := by decide +kernel
theorem own_d11_20 : decode prog_64_method_1_code 20 = .ok (.aload 4, 2) := by decide +kernel
theorem own_d11_22 : decode prog_64_method_1_code 22 = .ok (.putfield 21, 3) := by decide +kernel
theorem own_d11_25 : decode prog_64_method_1_code 25 = .ok (.aload_n 0, 1) := by decide +kernel
theorem own_d11_26 : decode prog_64_method_1_code 26 = .ok (.aload 5, 2) := by decide +kernel
theorem own_d11_28 : decode prog_64_method_1_code 28 = .ok (.putfield 25, 3) := by decide +kernel
theorem own_d11_31 : decode prog_64_method_1_code 31 = .ok (.aload_n 0, 1) := by decide +kernel
theorem own_d11_32 : decode prog_64_method_1_code 32 = .ok (.iload 6, 2) := by decide +kernel
theorem own_d11_34 : decode prog_64_method_1_code 34 = .ok (.putfield 28, 3) := by decide +kernel
theorem own_d11_37 : decode prog_64_method_1_code 37 = .ok (.aload_n 0, 1) := by decide +kernel
theorem own_d11_38 : decode prog_64_method_1_code 38 = .ok (.aload 7, 2) := by decide +kernel
theorem own_d11_40 : decode prog_64_method_1_code 40 = .ok (.putfield 32, 3) := by decide +kernel
theorem own_d11_43 : decode prog_64_method_1_code 43 = .ok (.return_, 1) := by decide +kernel
def own_Q_hi (Z : State) (q : Addr) (p1 : Int32) (kd : Addr) (nu : Addr) (a : Addr) (re : Addr) (p6 : Int32) (fo : Addr) (h0 : Heap) (n0 : Nat) (vv_ : Option Value) (hh_ : Heap) (LL_ : List Loc) : Prop := vv_ = none ∧ Fr n0 LL_ ∧ Old Z n0 hh_ ∧ Keep h0 hh_ [q] ∧ Exa Z hh_ q "com/example/witnesseth/witnesseth/HeadingLine" ∧ Fld Z hh_ q "com/example/witnesseth/witnesseth/HeadingLine" "kind" "Lcom/example/witnesseth/witnesseth/Heading$Kind;" (.ref kd) ∧ Fld Z hh_ q "com/example/witnesseth/witnesseth/HeadingLine" "value" "Ljava/util/List;" (.ref a)
theorem own_ef11 (m : MethodId) (x0 : Addr) (x1 : Int32) (x2 : Addr) (x3 : Addr) (x4 : Addr) (x5 : Addr) (x6 : Int32) (x7 : Addr) : entryFrame m #[(.ref x0), (.int x1), (.ref x2), (.ref x3), (.ref x4), (.ref x5), (.int x6), (.ref x7)] 8 = mkF m 0 #[.val (.ref x0), .val (.int x1), .val (.ref x2), .val (.ref x3), .val (.ref x4), .val (.ref x5), .val (.int x6), .val (.ref x7)] [] := by first | (simp [entryFrame, mkF, argsToLocals, Value.category]; done) | rfl
theorem own_pn8 : plainName "com/example/witnesseth/witnesseth/HeadingLine" = true := by first | (simp [plainName, overriddenIn]; done) | decide +kernel
set_option maxRecDepth 65536 in
set_option maxHeartbeats 40000000 in
theorem own_hi (l : Launch) (Z : State) (a0 : Array Value) (hw : ∀ d ∈ tables_1, d.before a0 Z = true) (ws : List Jvm.Cond) (q : Addr) (p1 : Int32) (kd : Addr) (nu : Addr) (a : Addr) (re : Addr) (p6 : Int32) (fo : Addr) (h0 : Heap) (n0 : Nat) (O0 : Old Z n0 h0)  (pm_E_q : Exa Z h0 q "com/example/witnesseth/witnesseth/HeadingLine") (pm_F_q_line : Fld Z h0 q "com/example/witnesseth/witnesseth/HeadingLine" "line" "I" (.int (0 : Int32))) (pm_F_q_kind : Fld Z h0 q "com/example/witnesseth/witnesseth/HeadingLine" "kind" "Lcom/example/witnesseth/witnesseth/Heading$Kind;" .null) (pm_F_q_number : Fld Z h0 q "com/example/witnesseth/witnesseth/HeadingLine" "number" "Ljava/lang/String;" .null) (pm_F_q_value : Fld Z h0 q "com/example/witnesseth/witnesseth/HeadingLine" "value" "Ljava/util/List;" .null) (pm_F_q_rest : Fld Z h0 q "com/example/witnesseth/witnesseth/HeadingLine" "rest" "Ljava/lang/String;" .null) (pm_F_q_carriesOn : Fld Z h0 q "com/example/witnesseth/witnesseth/HeadingLine" "carriesOn" "Z" (.int (0 : Int32))) (pm_F_q_form : Fld Z h0 q "com/example/witnesseth/witnesseth/HeadingLine" "form" "Lcom/example/witnesseth/witnesseth/HeadingLine$Form;" .null) (pm_ge_q : n0 ≤ q) :
    MetFree l (⟨"com/example/witnesseth/witnesseth/HeadingLine", "<init>", "(ILcom/example/witnesseth/witnesseth/Heading$Kind;Ljava/lang/String;Ljava/util/List;Ljava/lang/String;ZLcom/example/witnesseth/witnesseth/HeadingLine$Form;)V"⟩ : MethodName) (head1 (Jvm.Cond.code (⟨"com/example/witnesseth/witnesseth/HeadingLine", "<init>", "(ILcom/example/witnesseth/witnesseth/Heading$Kind;Ljava/lang/String;Ljava/util/List;Ljava/lang/String;ZLcom/example/witnesseth/witnesseth/HeadingLine$Form;)V"⟩ : MethodName) prog_64_method_1_code 8 none :: ws) ({ frames := 2, cells := 0, slots := 0, locals := 24 } : Room)) (fun aa_ U_ => aa_ = #[(.ref q), (.int p1), (.ref kd), (.ref nu), (.ref a), (.ref re), (.int p6), (.ref fo)] ∧ Z.Warmed39 U_.vm ∧ U_.heap = h0) (fun _ _ _ _ _ => True) (fun _ U_ oo_ UU_ => ∃ vv_ LL_, oo_ = .returned vv_ ∧ own_Q_hi Z q p1 kd nu a re p6 fo h0 n0 vv_ UU_.heap LL_ ∧ FrameEnd U_ oo_ UU_ LL_ ({ frames := 2, cells := 0, slots := 0, locals := 24 } : Room).cells ({ frames := 2, cells := 0, slots := 0, locals := 24 } : Room).slots) := by
  refine MetFree.of_bodySF (plainFor_of_name own_pn8) hisR ?_
  intro p e s m args below meth c s₁ Bd hml0 hP hK
  obtain ⟨rfl, hZ, hh⟩ := hP
  have hx := Bd.exec
  have hby := Bd.bytes
  have hml : c.maxLocals = 8 := hml0
  have hown : s.vm.findClass "com/example/witnesseth/witnesseth/HeadingLine" = some m.cls := findClass_of_methodNamed Bd.named
  have hnm := (name_of_methodNamed Bd.named Bd.method).1
  have X0 : Stand p l e ({ frames := 2, cells := 0, slots := 0, locals := 24 } : Room) s m #[(.ref q), (.int p1), (.ref kd), (.ref nu), (.ref a), (.ref re), (.int p6), (.ref fo)] below meth c s₁ [] 0 0 := Stand.of_body Bd
  have e0 : s₁.heap = h0 := by rw [← hh, Bd.state]; rfl
  have N0 := Fr.nil n0
  have pre0 : ∀ tt_, Steps p.tables e below (s₁.setTop (mkF m 0 #[.val (.ref q), .val (.int p1), .val (.ref kd), .val (.ref nu), .val (.ref a), .val (.ref re), .val (.int p6), .val (.ref fo)] [])) tt_ → Steps p.tables e below (s₁.setTop (entryFrame m #[(.ref q), (.int p1), (.ref kd), (.ref nu), (.ref a), (.ref re), (.int p6), (.ref fo)] 8)) tt_ := fun tt_ kk_ => castTop (own_ef11 m q p1 kd nu a re p6 fo) kk_
  obtain ⟨_, _, ⟨T1, L1, k1, n1⟩, -, X1, ⟨Lc1, hQ1, l1, y1, z1⟩, st1⟩ := X0.specialBack hx (y := (⟨"java/lang/Record", "<init>", "()V"⟩ : MethodName)) rfl hown (mvT hZ (hw _ (List.mem_of_getElem? (i := 89) rfl))) (mvT hZ (hw _ (List.mem_of_getElem? (i := 90) rfl))) (mvT hZ (hw _ (List.mem_of_getElem? (i := 93) rfl))) (by decide) (backOf (W := 0) (own_rec l Z a0 hw [] q h0 n0 O0  ) hZ (hw _ (List.mem_of_getElem? (i := 93) rfl)) (hw _ (List.mem_of_getElem? (i := 92) rfl)) (by decide) (by decide)) (g := (mkF m 1 #[.val (.ref q), .val (.int p1), .val (.ref kd), .val (.ref nu), .val (.ref a), .val (.ref re), .val (.int p6), .val (.ref fo)] [(.ref q)])) rfl (by rw [hml]; rfl) (Steps.refl _) (a := q) (argsL := []) (rest := []) (lenOf own_pd0 rfl) rfl (by show 2 * 0 + _ ≤ _; exact Nat.le_of_eq rfl) (hb hby own_d11_1) (fun _ _ => ⟨rfl, e0, (by decide : 0 + 0 ≤ _), (by decide : 0 + 0 ≤ _)⟩)
  dsimp only [Pt.U, Pt.locs, Pt.cells, Pt.slots] at X1 l1 y1 z1 st1 hQ1
  subst l1 y1 z1
  obtain ⟨rfl, rfl, e1⟩ := hQ1
  try rw [List.append_nil] at X1
  obtain ⟨T2, h2, X2, e2, W2, st2⟩ := putF X1 hx hZ hown (host := "") (Or.inl (hw _ (List.mem_of_getElem? (i := 95) rfl))) Via.refl e1 pm_F_q_line pm_E_q (Or.inr ⟨(hw _ (List.mem_of_getElem? (i := 96) rfl)), rfl, hnm⟩) (hw _ (List.mem_of_getElem? (i := 75) rfl)) (ty := .int) (by decide) rfl rfl (g := (mkF m 6 #[.val (.ref q), .val (.int p1), .val (.ref kd), .val (.ref nu), .val (.ref a), .val (.ref re), .val (.int p6), .val (.ref fo)] [(.int p1), (.ref q)])) rfl rfl (hb hby own_d11_6)
  have f2_E_q := pm_E_q.wr W2
  have f2_F_q_line := pm_F_q_line.same W2
  have f2_F_q_kind := pm_F_q_kind.other W2 (Or.inr (slot_ne (Or.inr (hw _ (List.mem_of_getElem? (i := 98) rfl))) (Or.inr (hw _ (List.mem_of_getElem? (i := 96) rfl))) (by decide) (t := (.object "com/example/witnesseth/witnesseth/Heading$Kind")) (t' := .int) (by decide) (by decide)))
  have f2_F_q_number := pm_F_q_number.other W2 (Or.inr (slot_ne (Or.inr (hw _ (List.mem_of_getElem? (i := 100) rfl))) (Or.inr (hw _ (List.mem_of_getElem? (i := 96) rfl))) (by decide) (t := (.object "java/lang/String")) (t' := .int) (by decide) (by decide)))
  have f2_F_q_value := pm_F_q_value.other W2 (Or.inr (slot_ne (Or.inr (hw _ (List.mem_of_getElem? (i := 102) rfl))) (Or.inr (hw _ (List.mem_of_getElem? (i := 96) rfl))) (by decide) (t := (.object "java/util/List")) (t' := .int) (by decide) (by decide)))
  have f2_F_q_rest := pm_F_q_rest.other W2 (Or.inr (slot_ne (Or.inr (hw _ (List.mem_of_getElem? (i := 104) rfl))) (Or.inr (hw _ (List.mem_of_getElem? (i := 96) rfl))) (by decide) (t := (.object "java/lang/String")) (t' := .int) (by decide) (by decide)))
  have f2_F_q_carriesOn := pm_F_q_carriesOn.other W2 (Or.inr (slot_ne (Or.inr (hw _ (List.mem_of_getElem? (i := 106) rfl))) (Or.inr (hw _ (List.mem_of_getElem? (i := 96) rfl))) (by decide) (t := .boolean) (t' := .int) (by decide) (by decide)))
  have f2_F_q_form := pm_F_q_form.other W2 (Or.inr (slot_ne (Or.inr (hw _ (List.mem_of_getElem? (i := 108) rfl))) (Or.inr (hw _ (List.mem_of_getElem? (i := 96) rfl))) (by decide) (t := (.object "com/example/witnesseth/witnesseth/HeadingLine$Form")) (t' := .int) (by decide) (by decide)))
  have O2 := O0.wr W2 pm_ge_q
  have KC2 := (Keep.refl h0 [q]).wr W2 (Or.inl (List.mem_of_getElem? (i := 0) rfl))
  have N2 := Fr.snoc X2 N0 pm_ge_q
  obtain ⟨T3, h3, X3, e3, W3, st3⟩ := putF X2 hx hZ hown (host := "") (Or.inl (hw _ (List.mem_of_getElem? (i := 97) rfl))) Via.refl e2 f2_F_q_kind f2_E_q (Or.inr ⟨(hw _ (List.mem_of_getElem? (i := 98) rfl)), rfl, hnm⟩) (hw _ (List.mem_of_getElem? (i := 75) rfl)) (ty := (.object "com/example/witnesseth/witnesseth/Heading$Kind")) (by decide) rfl rfl (g := (mkF m 11 #[.val (.ref q), .val (.int p1), .val (.ref kd), .val (.ref nu), .val (.ref a), .val (.ref re), .val (.int p6), .val (.ref fo)] [(.ref kd), (.ref q)])) rfl rfl (hb hby own_d11_11)
  have f3_E_q := f2_E_q.wr W3
  have f3_F_q_line := f2_F_q_line.other W3 (Or.inr (slot_ne (Or.inr (hw _ (List.mem_of_getElem? (i := 96) rfl))) (Or.inr (hw _ (List.mem_of_getElem? (i := 98) rfl))) (by decide) (t := .int) (t' := (.object "com/example/witnesseth/witnesseth/Heading$Kind")) (by decide) (by decide)))
  have f3_F_q_kind := f2_F_q_kind.same W3
  have f3_F_q_number := f2_F_q_number.other W3 (Or.inr (slot_ne (Or.inr (hw _ (List.mem_of_getElem? (i := 100) rfl))) (Or.inr (hw _ (List.mem_of_getElem? (i := 98) rfl))) (by decide) (t := (.object "java/lang/String")) (t' := (.object "com/example/witnesseth/witnesseth/Heading$Kind")) (by decide) (by decide)))
  have f3_F_q_value := f2_F_q_value.other W3 (Or.inr (slot_ne (Or.inr (hw _ (List.mem_of_getElem? (i := 102) rfl))) (Or.inr (hw _ (List.mem_of_getElem? (i := 98) rfl))) (by decide) (t := (.object "java/util/List")) (t' := (.object "com/example/witnesseth/witnesseth/Heading$Kind")) (by decide) (by decide)))
  have f3_F_q_rest := f2_F_q_rest.other W3 (Or.inr (slot_ne (Or.inr (hw _ (List.mem_of_getElem? (i := 104) rfl))) (Or.inr (hw _ (List.mem_of_getElem? (i := 98) rfl))) (by decide) (t := (.object "java/lang/String")) (t' := (.object "com/example/witnesseth/witnesseth/Heading$Kind")) (by decide) (by decide)))
  have f3_F_q_carriesOn := f2_F_q_carriesOn.other W3 (Or.inr (slot_ne (Or.inr (hw _ (List.mem_of_getElem? (i := 106) rfl))) (Or.inr (hw _ (List.mem_of_getElem? (i := 98) rfl))) (by decide) (t := .boolean) (t' := (.object "com/example/witnesseth/witnesseth/Heading$Kind")) (by decide) (by decide)))
  have f3_F_q_form := f2_F_q_form.other W3 (Or.inr (slot_ne (Or.inr (hw _ (List.mem_of_getElem? (i := 108) rfl))) (Or.inr (hw _ (List.mem_of_getElem? (i := 98) rfl))) (by decide) (t := (.object "com/example/witnesseth/witnesseth/HeadingLine$Form")) (t' := (.object "com/example/witnesseth/witnesseth/Heading$Kind")) (by decide) (by decide)))
  have O3 := O2.wr W3 pm_ge_q
  have KC3 := KC2.wr W3 (Or.inl (List.mem_of_getElem? (i := 0) rfl))
  have N3 := Fr.snoc X3 N2 pm_ge_q
  obtain ⟨T4, h4, X4, e4, W4, st4⟩ := putF X3 hx hZ hown (host := "") (Or.inl (hw _ (List.mem_of_getElem? (i := 99) rfl))) Via.refl e3 f3_F_q_number f3_E_q (Or.inr ⟨(hw _ (List.mem_of_getElem? (i := 100) rfl)), rfl, hnm⟩) (hw _ (List.mem_of_getElem? (i := 75) rfl)) (ty := (.object "java/lang/String")) (by decide) rfl rfl (g := (mkF m 16 #[.val (.ref q), .val (.int p1), .val (.ref kd), .val (.ref nu), .val (.ref a), .val (.ref re), .val (.int p6), .val (.ref fo)] [(.ref nu), (.ref q)])) rfl rfl (hb hby own_d11_16)
  have f4_E_q := f3_E_q.wr W4
  have f4_F_q_line := f3_F_q_line.other W4 (Or.inr (slot_ne (Or.inr (hw _ (List.mem_of_getElem? (i := 96) rfl))) (Or.inr (hw _ (List.mem_of_getElem? (i := 100) rfl))) (by decide) (t := .int) (t' := (.object "java/lang/String")) (by decide) (by decide)))
  have f4_F_q_kind := f3_F_q_kind.other W4 (Or.inr (slot_ne (Or.inr (hw _ (List.mem_of_getElem? (i := 98) rfl))) (Or.inr (hw _ (List.mem_of_getElem? (i := 100) rfl))) (by decide) (t := (.object "com/example/witnesseth/witnesseth/Heading$Kind")) (t' := (.object "java/lang/String")) (by decide) (by decide)))
  have f4_F_q_number := f3_F_q_number.same W4
  have f4_F_q_value := f3_F_q_value.other W4 (Or.inr (slot_ne (Or.inr (hw _ (List.mem_of_getElem? (i := 102) rfl))) (Or.inr (hw _ (List.mem_of_getElem? (i := 100) rfl))) (by decide) (t := (.object "java/util/List")) (t' := (.object "java/lang/String")) (by decide) (by decide)))
  have f4_F_q_rest := f3_F_q_rest.other W4 (Or.inr (slot_ne (Or.inr (hw _ (List.mem_of_getElem? (i := 104) rfl))) (Or.inr (hw _ (List.mem_of_getElem? (i := 100) rfl))) (by decide) (t := (.object "java/lang/String")) (t' := (.object "java/lang/String")) (by decide) (by decide)))
  have f4_F_q_carriesOn := f3_F_q_carriesOn.other W4 (Or.inr (slot_ne (Or.inr (hw _ (List.mem_of_getElem? (i := 106) rfl))) (Or.inr (hw _ (List.mem_of_getElem? (i := 100) rfl))) (by decide) (t := .boolean) (t' := (.object "java/lang/String")) (by decide) (by decide)))
  have f4_F_q_form := f3_F_q_form.other W4 (Or.inr (slot_ne (Or.inr (hw _ (List.mem_of_getElem? (i := 108) rfl))) (Or.inr (hw _ (List.mem_of_getElem? (i := 100) rfl))) (by decide) (t := (.object "com/example/witnesseth/witnesseth/HeadingLine$Form")) (t' := (.object "java/lang/String")) (by decide) (by decide)))
  have O4 := O3.wr W4 pm_ge_q
  have KC4 := KC3.wr W4 (Or.inl (List.mem_of_getElem? (i := 0) rfl))
  have N4 := Fr.snoc X4 N3 pm_ge_q
  obtain ⟨T5, h5, X5, e5, W5, st5⟩ := putF X4 hx hZ hown (host := "") (Or.inl (hw _ (List.mem_of_getElem? (i := 101) rfl))) Via.refl e4 f4_F_q_value f4_E_q (Or.inr ⟨(hw _ (List.mem_of_getElem? (i := 102) rfl)), rfl, hnm⟩) (hw _ (List.mem_of_getElem? (i := 75) rfl)) (ty := (.object "java/util/List")) (by decide) rfl rfl (g := (mkF m 22 #[.val (.ref q), .val (.int p1), .val (.ref kd), .val (.ref nu), .val (.ref a), .val (.ref re), .val (.int p6), .val (.ref fo)] [(.ref a), (.ref q)])) rfl rfl (hb hby own_d11_22)
  have f5_E_q := f4_E_q.wr W5
  have f5_F_q_line := f4_F_q_line.other W5 (Or.inr (slot_ne (Or.inr (hw _ (List.mem_of_getElem? (i := 96) rfl))) (Or.inr (hw _ (List.mem_of_getElem? (i := 102) rfl))) (by decide) (t := .int) (t' := (.object "java/util/List")) (by decide) (by decide)))
  have f5_F_q_kind := f4_F_q_kind.other W5 (Or.inr (slot_ne (Or.inr (hw _ (List.mem_of_getElem? (i := 98) rfl))) (Or.inr (hw _ (List.mem_of_getElem? (i := 102) rfl))) (by decide) (t := (.object "com/example/witnesseth/witnesseth/Heading$Kind")) (t' := (.object "java/util/List")) (by decide) (by decide)))
  have f5_F_q_number := f4_F_q_number.other W5 (Or.inr (slot_ne (Or.inr (hw _ (List.mem_of_getElem? (i := 100) rfl))) (Or.inr (hw _ (List.mem_of_getElem? (i := 102) rfl))) (by decide) (t := (.object "java/lang/String")) (t' := (.object "java/util/List")) (by decide) (by decide)))
  have f5_F_q_value := f4_F_q_value.same W5
  have f5_F_q_rest := f4_F_q_rest.other W5 (Or.inr (slot_ne (Or.inr (hw _ (List.mem_of_getElem? (i := 104) rfl))) (Or.inr (hw _ (List.mem_of_getElem? (i := 102) rfl))) (by decide) (t := (.object "java/lang/String")) (t' := (.object "java/util/List")) (by decide) (by decide)))
  have f5_F_q_carriesOn := f4_F_q_carriesOn.other W5 (Or.inr (slot_ne (Or.inr (hw _ (List.mem_of_getElem? (i := 106) rfl))) (Or.inr (hw _ (List.mem_of_getElem? (i := 102) rfl))) (by decide) (t := .boolean) (t' := (.object "java/util/List")) (by decide) (by decide)))
  have f5_F_q_form := f4_F_q_form.other W5 (Or.inr (slot_ne (Or.inr (hw _ (List.mem_of_getElem? (i := 108) rfl))) (Or.inr (hw _ (List.mem_of_getElem? (i := 102) rfl))) (by decide) (t := (.object "com/example/witnesseth/witnesseth/HeadingLine$Form")) (t' := (.object "java/util/List")) (by decide) (by decide)))
  have O5 := O4.wr W5 pm_ge_q
  have KC5 := KC4.wr W5 (Or.inl (List.mem_of_getElem? (i := 0) rfl))
  have N5 := Fr.snoc X5 N4 pm_ge_q
  obtain ⟨T6, h6, X6, e6, W6, st6⟩ := putF X5 hx hZ hown (host := "") (Or.inl (hw _ (List.mem_of_getElem? (i := 103) rfl))) Via.refl e5 f5_F_q_rest f5_E_q (Or.inr ⟨(hw _ (List.mem_of_getElem? (i := 104) rfl)), rfl, hnm⟩) (hw _ (List.mem_of_getElem? (i := 75) rfl)) (ty := (.object "java/lang/String")) (by decide) rfl rfl (g := (mkF m 28 #[.val (.ref q), .val (.int p1), .val (.ref kd), .val (.ref nu), .val (.ref a), .val (.ref re), .val (.int p6), .val (.ref fo)] [(.ref re), (.ref q)])) rfl rfl (hb hby own_d11_28)
  have f6_E_q := f5_E_q.wr W6
  have f6_F_q_line := f5_F_q_line.other W6 (Or.inr (slot_ne (Or.inr (hw _ (List.mem_of_getElem? (i := 96) rfl))) (Or.inr (hw _ (List.mem_of_getElem? (i := 104) rfl))) (by decide) (t := .int) (t' := (.object "java/lang/String")) (by decide) (by decide)))
  have f6_F_q_kind := f5_F_q_kind.other W6 (Or.inr (slot_ne (Or.inr (hw _ (List.mem_of_getElem? (i := 98) rfl))) (Or.inr (hw _ (List.mem_of_getElem? (i := 104) rfl))) (by decide) (t := (.object "com/example/witnesseth/witnesseth/Heading$Kind")) (t' := (.object "java/lang/String")) (by decide) (by decide)))
  have f6_F_q_number := f5_F_q_number.other W6 (Or.inr (slot_ne (Or.inr (hw _ (List.mem_of_getElem? (i := 100) rfl))) (Or.inr (hw _ (List.mem_of_getElem? (i := 104) rfl))) (by decide) (t := (.object "java/lang/String")) (t' := (.object "java/lang/String")) (by decide) (by decide)))
  have f6_F_q_value := f5_F_q_value.other W6 (Or.inr (slot_ne (Or.inr (hw _ (List.mem_of_getElem? (i := 102) rfl))) (Or.inr (hw _ (List.mem_of_getElem? (i := 104) rfl))) (by decide) (t := (.object "java/util/List")) (t' := (.object "java/lang/String")) (by decide) (by decide)))
  have f6_F_q_rest := f5_F_q_rest.same W6
  have f6_F_q_carriesOn := f5_F_q_carriesOn.other W6 (Or.inr (slot_ne (Or.inr (hw _ (List.mem_of_getElem? (i := 106) rfl))) (Or.inr (hw _ (List.mem_of_getElem? (i := 104) rfl))) (by decide) (t := .boolean) (t' := (.object "java/lang/String")) (by decide) (by decide)))
  have f6_F_q_form := f5_F_q_form.other W6 (Or.inr (slot_ne (Or.inr (hw _ (List.mem_of_getElem? (i := 108) rfl))) (Or.inr (hw _ (List.mem_of_getElem? (i := 104) rfl))) (by decide) (t := (.object "com/example/witnesseth/witnesseth/HeadingLine$Form")) (t' := (.object "java/lang/String")) (by decide) (by decide)))
  have O6 := O5.wr W6 pm_ge_q
  have KC6 := KC5.wr W6 (Or.inl (List.mem_of_getElem? (i := 0) rfl))
  have N6 := Fr.snoc X6 N5 pm_ge_q
  obtain ⟨T7, h7, X7, e7, W7, st7⟩ := putFN X6 hx hZ hown (hw _ (List.mem_of_getElem? (i := 105) rfl)) Via.refl e6 f6_F_q_carriesOn f6_E_q (Or.inr ⟨(hw _ (List.mem_of_getElem? (i := 106) rfl)), rfl, hnm⟩) (hw _ (List.mem_of_getElem? (i := 75) rfl)) (ty := .boolean) (v' := (.int (nar .boolean p6))) (by decide) rfl (fits_nar_bool _) (g := (mkF m 34 #[.val (.ref q), .val (.int p1), .val (.ref kd), .val (.ref nu), .val (.ref a), .val (.ref re), .val (.int p6), .val (.ref fo)] [(.int p6), (.ref q)])) rfl rfl (hb hby own_d11_34)
  have f7_E_q := f6_E_q.wr W7
  have f7_F_q_line := f6_F_q_line.other W7 (Or.inr (slot_ne (Or.inr (hw _ (List.mem_of_getElem? (i := 96) rfl))) (Or.inr (hw _ (List.mem_of_getElem? (i := 106) rfl))) (by decide) (t := .int) (t' := .boolean) (by decide) (by decide)))
  have f7_F_q_kind := f6_F_q_kind.other W7 (Or.inr (slot_ne (Or.inr (hw _ (List.mem_of_getElem? (i := 98) rfl))) (Or.inr (hw _ (List.mem_of_getElem? (i := 106) rfl))) (by decide) (t := (.object "com/example/witnesseth/witnesseth/Heading$Kind")) (t' := .boolean) (by decide) (by decide)))
  have f7_F_q_number := f6_F_q_number.other W7 (Or.inr (slot_ne (Or.inr (hw _ (List.mem_of_getElem? (i := 100) rfl))) (Or.inr (hw _ (List.mem_of_getElem? (i := 106) rfl))) (by decide) (t := (.object "java/lang/String")) (t' := .boolean) (by decide) (by decide)))
  have f7_F_q_value := f6_F_q_value.other W7 (Or.inr (slot_ne (Or.inr (hw _ (List.mem_of_getElem? (i := 102) rfl))) (Or.inr (hw _ (List.mem_of_getElem? (i := 106) rfl))) (by decide) (t := (.object "java/util/List")) (t' := .boolean) (by decide) (by decide)))
  have f7_F_q_rest := f6_F_q_rest.other W7 (Or.inr (slot_ne (Or.inr (hw _ (List.mem_of_getElem? (i := 104) rfl))) (Or.inr (hw _ (List.mem_of_getElem? (i := 106) rfl))) (by decide) (t := (.object "java/lang/String")) (t' := .boolean) (by decide) (by decide)))
  have f7_F_q_carriesOn := f6_F_q_carriesOn.same W7
  have f7_F_q_form := f6_F_q_form.other W7 (Or.inr (slot_ne (Or.inr (hw _ (List.mem_of_getElem? (i := 108) rfl))) (Or.inr (hw _ (List.mem_of_getElem? (i := 106) rfl))) (by decide) (t := (.object "com/example/witnesseth/witnesseth/HeadingLine$Form")) (t' := .boolean) (by decide) (by decide)))
  have O7 := O6.wr W7 pm_ge_q
  have KC7 := KC6.wr W7 (Or.inl (List.mem_of_getElem? (i := 0) rfl))
  have N7 := Fr.snoc X7 N6 pm_ge_q
  obtain ⟨T8, h8, X8, e8, W8, st8⟩ := putF X7 hx hZ hown (host := "") (Or.inl (hw _ (List.mem_of_getElem? (i := 107) rfl))) Via.refl e7 f7_F_q_form f7_E_q (Or.inr ⟨(hw _ (List.mem_of_getElem? (i := 108) rfl)), rfl, hnm⟩) (hw _ (List.mem_of_getElem? (i := 75) rfl)) (ty := (.object "com/example/witnesseth/witnesseth/HeadingLine$Form")) (by decide) rfl rfl (g := (mkF m 40 #[.val (.ref q), .val (.int p1), .val (.ref kd), .val (.ref nu), .val (.ref a), .val (.ref re), .val (.int p6), .val (.ref fo)] [(.ref fo), (.ref q)])) rfl rfl (hb hby own_d11_40)
  have f8_E_q := f7_E_q.wr W8
  have f8_F_q_line := f7_F_q_line.other W8 (Or.inr (slot_ne (Or.inr (hw _ (List.mem_of_getElem? (i := 96) rfl))) (Or.inr (hw _ (List.mem_of_getElem? (i := 108) rfl))) (by decide) (t := .int) (t' := (.object "com/example/witnesseth/witnesseth/HeadingLine$Form")) (by decide) (by decide)))
  have f8_F_q_kind := f7_F_q_kind.other W8 (Or.inr (slot_ne (Or.inr (hw _ (List.mem_of_getElem? (i := 98) rfl))) (Or.inr (hw _ (List.mem_of_getElem? (i := 108) rfl))) (by decide) (t := (.object "com/example/witnesseth/witnesseth/Heading$Kind")) (t' := (.object "com/example/witnesseth/witnesseth/HeadingLine$Form")) (by decide) (by decide)))
  have f8_F_q_number := f7_F_q_number.other W8 (Or.inr (slot_ne (Or.inr (hw _ (List.mem_of_getElem? (i := 100) rfl))) (Or.inr (hw _ (List.mem_of_getElem? (i := 108) rfl))) (by decide) (t := (.object "java/lang/String")) (t' := (.object "com/example/witnesseth/witnesseth/HeadingLine$Form")) (by decide) (by decide)))
  have f8_F_q_value := f7_F_q_value.other W8 (Or.inr (slot_ne (Or.inr (hw _ (List.mem_of_getElem? (i := 102) rfl))) (Or.inr (hw _ (List.mem_of_getElem? (i := 108) rfl))) (by decide) (t := (.object "java/util/List")) (t' := (.object "com/example/witnesseth/witnesseth/HeadingLine$Form")) (by decide) (by decide)))
  have f8_F_q_rest := f7_F_q_rest.other W8 (Or.inr (slot_ne (Or.inr (hw _ (List.mem_of_getElem? (i := 104) rfl))) (Or.inr (hw _ (List.mem_of_getElem? (i := 108) rfl))) (by decide) (t := (.object "java/lang/String")) (t' := (.object "com/example/witnesseth/witnesseth/HeadingLine$Form")) (by decide) (by decide)))
  have f8_F_q_carriesOn := f7_F_q_carriesOn.other W8 (Or.inr (slot_ne (Or.inr (hw _ (List.mem_of_getElem? (i := 106) rfl))) (Or.inr (hw _ (List.mem_of_getElem? (i := 108) rfl))) (by decide) (t := .boolean) (t' := (.object "com/example/witnesseth/witnesseth/HeadingLine$Form")) (by decide) (by decide)))
  have f8_F_q_form := f7_F_q_form.same W8
  have O8 := O7.wr W8 pm_ge_q
  have KC8 := KC7.wr W8 (Or.inl (List.mem_of_getElem? (i := 0) rfl))
  have N8 := Fr.snoc X8 N7 pm_ge_q
  obtain ⟨fs, hr, hrun, hended, hW, hsame⟩ := X8.leave (v := none) (fun _ => rfl)
  refine ⟨_, _, pre0 _ ?_, hrun, hended, _, _, rfl, ?_, ⟨_, rfl⟩, hW, hsame.mono (by decide) (by decide)⟩
  · show Steps p.tables e below (s₁.setTop (mkF m 0 #[.val (.ref q), .val (.int p1), .val (.ref kd), .val (.ref nu), .val (.ref a), .val (.ref re), .val (.int p6), .val (.ref fo)] [])) _
    refine XS.aloadN X0.here hx rfl (hb hby own_d11_0) rfl rfl ?_
    show Steps p.tables e below (s₁.setTop (mkF m 1 #[.val (.ref q), .val (.int p1), .val (.ref kd), .val (.ref nu), .val (.ref a), .val (.ref re), .val (.int p6), .val (.ref fo)] [(.ref q)])) _
    refine st1.trans ?_
    show Steps p.tables e below (T1.setTop (mkF m 4 #[.val (.ref q), .val (.int p1), .val (.ref kd), .val (.ref nu), .val (.ref a), .val (.ref re), .val (.int p6), .val (.ref fo)] [])) _
    refine XS.aloadN X1.here hx rfl (hb hby own_d11_4) rfl rfl ?_
    show Steps p.tables e below (T1.setTop (mkF m 5 #[.val (.ref q), .val (.int p1), .val (.ref kd), .val (.ref nu), .val (.ref a), .val (.ref re), .val (.int p6), .val (.ref fo)] [(.ref q)])) _
    refine XS.iloadN X1.here hx rfl (hb hby own_d11_5) rfl ?_
    show Steps p.tables e below (T1.setTop (mkF m 6 #[.val (.ref q), .val (.int p1), .val (.ref kd), .val (.ref nu), .val (.ref a), .val (.ref re), .val (.int p6), .val (.ref fo)] [(.int p1), (.ref q)])) _
    refine st2 _ ?_
    show Steps p.tables e below (T2.setTop (mkF m 9 #[.val (.ref q), .val (.int p1), .val (.ref kd), .val (.ref nu), .val (.ref a), .val (.ref re), .val (.int p6), .val (.ref fo)] [])) _
    refine XS.aloadN X2.here hx rfl (hb hby own_d11_9) rfl rfl ?_
    show Steps p.tables e below (T2.setTop (mkF m 10 #[.val (.ref q), .val (.int p1), .val (.ref kd), .val (.ref nu), .val (.ref a), .val (.ref re), .val (.int p6), .val (.ref fo)] [(.ref q)])) _
    refine XS.aloadN X2.here hx rfl (hb hby own_d11_10) rfl rfl ?_
    show Steps p.tables e below (T2.setTop (mkF m 11 #[.val (.ref q), .val (.int p1), .val (.ref kd), .val (.ref nu), .val (.ref a), .val (.ref re), .val (.int p6), .val (.ref fo)] [(.ref kd), (.ref q)])) _
    refine st3 _ ?_
    show Steps p.tables e below (T3.setTop (mkF m 14 #[.val (.ref q), .val (.int p1), .val (.ref kd), .val (.ref nu), .val (.ref a), .val (.ref re), .val (.int p6), .val (.ref fo)] [])) _
    refine XS.aloadN X3.here hx rfl (hb hby own_d11_14) rfl rfl ?_
    show Steps p.tables e below (T3.setTop (mkF m 15 #[.val (.ref q), .val (.int p1), .val (.ref kd), .val (.ref nu), .val (.ref a), .val (.ref re), .val (.int p6), .val (.ref fo)] [(.ref q)])) _
    refine XS.aloadN X3.here hx rfl (hb hby own_d11_15) rfl rfl ?_
    show Steps p.tables e below (T3.setTop (mkF m 16 #[.val (.ref q), .val (.int p1), .val (.ref kd), .val (.ref nu), .val (.ref a), .val (.ref re), .val (.int p6), .val (.ref fo)] [(.ref nu), (.ref q)])) _
    refine st4 _ ?_
    show Steps p.tables e below (T4.setTop (mkF m 19 #[.val (.ref q), .val (.int p1), .val (.ref kd), .val (.ref nu), .val (.ref a), .val (.ref re), .val (.int p6), .val (.ref fo)] [])) _
    refine XS.aloadN X4.here hx rfl (hb hby own_d11_19) rfl rfl ?_
    show Steps p.tables e below (T4.setTop (mkF m 20 #[.val (.ref q), .val (.int p1), .val (.ref kd), .val (.ref nu), .val (.ref a), .val (.ref re), .val (.int p6), .val (.ref fo)] [(.ref q)])) _
    refine XS.aload X4.here hx rfl (hb hby own_d11_20) rfl rfl ?_
    show Steps p.tables e below (T4.setTop (mkF m 22 #[.val (.ref q), .val (.int p1), .val (.ref kd), .val (.ref nu), .val (.ref a), .val (.ref re), .val (.int p6), .val (.ref fo)] [(.ref a), (.ref q)])) _
    refine st5 _ ?_
    show Steps p.tables e below (T5.setTop (mkF m 25 #[.val (.ref q), .val (.int p1), .val (.ref kd), .val (.ref nu), .val (.ref a), .val (.ref re), .val (.int p6), .val (.ref fo)] [])) _
    refine XS.aloadN X5.here hx rfl (hb hby own_d11_25) rfl rfl ?_
    show Steps p.tables e below (T5.setTop (mkF m 26 #[.val (.ref q), .val (.int p1), .val (.ref kd), .val (.ref nu), .val (.ref a), .val (.ref re), .val (.int p6), .val (.ref fo)] [(.ref q)])) _
    refine XS.aload X5.here hx rfl (hb hby own_d11_26) rfl rfl ?_
    show Steps p.tables e below (T5.setTop (mkF m 28 #[.val (.ref q), .val (.int p1), .val (.ref kd), .val (.ref nu), .val (.ref a), .val (.ref re), .val (.int p6), .val (.ref fo)] [(.ref re), (.ref q)])) _
    refine st6 _ ?_
    show Steps p.tables e below (T6.setTop (mkF m 31 #[.val (.ref q), .val (.int p1), .val (.ref kd), .val (.ref nu), .val (.ref a), .val (.ref re), .val (.int p6), .val (.ref fo)] [])) _
    refine XS.aloadN X6.here hx rfl (hb hby own_d11_31) rfl rfl ?_
    show Steps p.tables e below (T6.setTop (mkF m 32 #[.val (.ref q), .val (.int p1), .val (.ref kd), .val (.ref nu), .val (.ref a), .val (.ref re), .val (.int p6), .val (.ref fo)] [(.ref q)])) _
    refine XS.iload X6.here hx rfl (hb hby own_d11_32) rfl ?_
    show Steps p.tables e below (T6.setTop (mkF m 34 #[.val (.ref q), .val (.int p1), .val (.ref kd), .val (.ref nu), .val (.ref a), .val (.ref re), .val (.int p6), .val (.ref fo)] [(.int p6), (.ref q)])) _
    refine st7 _ ?_
    show Steps p.tables e below (T7.setTop (mkF m 37 #[.val (.ref q), .val (.int p1), .val (.ref kd), .val (.ref nu), .val (.ref a), .val (.ref re), .val (.int p6), .val (.ref fo)] [])) _
    refine XS.aloadN X7.here hx rfl (hb hby own_d11_37) rfl rfl ?_
    show Steps p.tables e below (T7.setTop (mkF m 38 #[.val (.ref q), .val (.int p1), .val (.ref kd), .val (.ref nu), .val (.ref a), .val (.ref re), .val (.int p6), .val (.ref fo)] [(.ref q)])) _
    refine XS.aload X7.here hx rfl (hb hby own_d11_38) rfl rfl ?_
    show Steps p.tables e below (T7.setTop (mkF m 40 #[.val (.ref q), .val (.int p1), .val (.ref kd), .val (.ref nu), .val (.ref a), .val (.ref re), .val (.int p6), .val (.ref fo)] [(.ref fo), (.ref q)])) _
    refine st8 _ ?_
    show Steps p.tables e below (T8.setTop (mkF m 43 #[.val (.ref q), .val (.int p1), .val (.ref kd), .val (.ref nu), .val (.ref a), .val (.ref re), .val (.int p6), .val (.ref fo)] [])) _
    exact X8.returnOut hx Bd.returns (hb hby own_d11_43) hr
  · show own_Q_hi Z q p1 kd nu a re p6 fo h0 n0 _ T8.heap _
    rw [e8]
    exact ⟨rfl, N8, O8, KC8, f8_E_q, f8_F_q_kind, f8_F_q_value⟩
theorem own_d13_0 : decode prog_64_method_12_code 0 = .ok (.aload_n 0, 1) := by decide +kernel
theorem own_d13_1 : decode prog_64_method_12_code 1 = .ok (.getfield 21, 3) := by decide +kernel
theorem own_d13_4 : decode prog_64_method_12_code 4 = .ok (.iconst 0, 1) := by decide +kernel
theorem own_d13_5 : decode prog_64_method_12_code 5 = .ok (.invokeinterface 254 2, 5) := by decide +kernel
theorem own_d13_10 : decode prog_64_method_12_code 10 = .ok (.checkcast 203, 3) := by decide +kernel
theorem own_d13_13 : decode prog_64_method_12_code 13 = .ok (.invokevirtual 257, 3) := by decide +kernel
theorem own_pd8 : parseMethodDescriptor "()I" = some ⟨[], some .int⟩ := by decide +kernel
theorem own_d13_16 : decode prog_64_method_12_code 16 = .ok (.ireturn, 1) := by decide +kernel
def own_Q_art1 (Z : State) (q : Addr) (a : Addr) (ea : Addr) (vs : Nat → Value) (x : Addr) (i : Int32) (h0 : Heap) (n0 : Nat) (vv_ : Option Value) (hh_ : Heap) (LL_ : List Loc) : Prop := vv_ = some (.int i) ∧ LL_ = [] ∧ hh_ = h0
theorem own_ef13 (m : MethodId) (x0 : Addr) : entryFrame m #[(.ref x0)] 1 = mkF m 0 #[.val (.ref x0)] [] := by first | (simp [entryFrame, mkF, argsToLocals, Value.category]; done) | rfl
set_option maxRecDepth 65536 in
set_option maxHeartbeats 40000000 in
theorem own_art1 (l : Launch) (Z : State) (a0 : Array Value) (hw : ∀ d ∈ tables_1, d.before a0 Z = true) (ws : List Jvm.Cond) (q : Addr) (a : Addr) (ea : Addr) (vs : Nat → Value) (x : Addr) (i : Int32) (h0 : Heap) (n0 : Nat) (O0 : Old Z n0 h0)  (pm_F_q_value : Fld Z h0 q "com/example/witnesseth/witnesseth/HeadingLine" "value" "Ljava/util/List;" (.ref a)) (pm_L_a : own_AL Z h0 a ea (1 : Int32) vs) (pm_E_x : Exa Z h0 x "java/lang/Integer") (pm_F_x_value : Fld Z h0 x "java/lang/Integer" "value" "I" (.int i)) (hv0 : vs 0 = .ref x) :
    MetFree l (⟨"com/example/witnesseth/witnesseth/HeadingLine", "article", "()I"⟩ : MethodName) (head1 (Jvm.Cond.code (⟨"com/example/witnesseth/witnesseth/HeadingLine", "article", "()I"⟩ : MethodName) prog_64_method_12_code 1 (some .int) :: ws) ({ frames := 3, cells := 0, slots := 0, locals := 40 } : Room)) (fun aa_ U_ => aa_ = #[(.ref q)] ∧ Z.Warmed39 U_.vm ∧ U_.heap = h0) (fun _ _ _ _ _ => True) (fun _ U_ oo_ UU_ => ∃ vv_ LL_, oo_ = .returned vv_ ∧ own_Q_art1 Z q a ea vs x i h0 n0 vv_ UU_.heap LL_ ∧ FrameEnd U_ oo_ UU_ LL_ ({ frames := 3, cells := 0, slots := 0, locals := 40 } : Room).cells ({ frames := 3, cells := 0, slots := 0, locals := 40 } : Room).slots) := by
  refine MetFree.of_bodySF (plainFor_of_name own_pn8) hisR ?_
  intro p e s m args below meth c s₁ Bd hml0 hP hK
  obtain ⟨rfl, hZ, hh⟩ := hP
  have hx := Bd.exec
  have hby := Bd.bytes
  have hml : c.maxLocals = 1 := hml0
  have hown : s.vm.findClass "com/example/witnesseth/witnesseth/HeadingLine" = some m.cls := findClass_of_methodNamed Bd.named
  have hnm := (name_of_methodNamed Bd.named Bd.method).1
  have X0 : Stand p l e ({ frames := 3, cells := 0, slots := 0, locals := 40 } : Room) s m #[(.ref q)] below meth c s₁ [] 0 0 := Stand.of_body Bd
  have e0 : s₁.heap = h0 := by rw [← hh, Bd.state]; rfl
  have N0 := Fr.nil n0
  have pre0 : ∀ tt_, Steps p.tables e below (s₁.setTop (mkF m 0 #[.val (.ref q)] [])) tt_ → Steps p.tables e below (s₁.setTop (entryFrame m #[(.ref q)] 1)) tt_ := fun tt_ kk_ => castTop (own_ef13 m q) kk_
  obtain ⟨T1, X1, e1, st1⟩ := getF X0 hx hZ hown (host := "") (Or.inl (hw _ (List.mem_of_getElem? (i := 101) rfl))) Via.refl e0 pm_F_q_value (g := (mkF m 1 #[.val (.ref q)] [(.ref q)])) rfl rfl (hb hby own_d13_1)
  obtain ⟨cq2, kq2, q2a, q2b, q2c⟩ := isOf hZ e1 pm_L_a.1
  obtain ⟨_, _, ⟨T2, L2, k2, n2⟩, -, X2, ⟨Lc2, hQ2, l2, y2, z2⟩, st2⟩ := X1.interfaceBack hx (xi := (⟨"java/util/List", "get", "(I)Ljava/lang/Object;"⟩ : MethodName)) (y := (⟨"java/util/ArrayList", "get", "(I)Ljava/lang/Object;"⟩ : MethodName)) hown (mvT hZ (hw _ (List.mem_of_getElem? (i := 116) rfl))) (mvT hZ (hw _ (List.mem_of_getElem? (i := 117) rfl))) (mvT hZ (hw _ (List.mem_of_getElem? (i := 118) rfl))) (mvT hZ (hw _ (List.mem_of_getElem? (i := 119) rfl))) (mvT hZ (hw _ (List.mem_of_getElem? (i := 120) rfl))) (mvT hZ (hw _ (List.mem_of_getElem? (i := 121) rfl))) (mvT hZ (hw _ (List.mem_of_getElem? (i := 122) rfl))) (mvT hZ (hw _ (List.mem_of_getElem? (i := 40) rfl))) (by decide) (backOf (W := 0) (own_get1 l Z a0 hw [] a x ea vs h0 n0 O0  pm_L_a hv0) hZ (hw _ (List.mem_of_getElem? (i := 123) rfl)) (hw _ (List.mem_of_getElem? (i := 2) rfl)) (by decide) (by decide)) q2a q2b q2c (g := (mkF m 5 #[.val (.ref q)] [(.int (0 : Int32)), (.ref a)])) rfl (by rw [hml]; rfl) (Steps.refl _) (argsL := [(.int (0 : Int32))]) (rest := []) (lenOf own_pd6 rfl) rfl (by show 2 * 0 + _ ≤ _; exact Nat.le_of_eq rfl) (hb hby own_d13_5) (fun _ _ => ⟨rfl, e1, (by decide : 0 + 0 ≤ _), (by decide : 0 + 0 ≤ _)⟩)
  dsimp only [Pt.U, Pt.locs, Pt.cells, Pt.slots] at X2 l2 y2 z2 st2 hQ2
  subst l2 y2 z2
  obtain ⟨rfl, rfl, e2⟩ := hQ2
  try rw [List.append_nil] at X2
  obtain ⟨T3, X3, e3, st3⟩ := castY X2 hx hZ hown (hw _ (List.mem_of_getElem? (i := 137) rfl)) e2 (Ins.self pm_E_x) (g := (mkF m 10 #[.val (.ref q)] [(.ref x)])) rfl rfl (hb hby own_d13_10)
  obtain ⟨cq4, kq4, q4a, q4b, q4c⟩ := isOf hZ e3 pm_E_x
  obtain ⟨_, _, ⟨T4, L4, k4, n4⟩, -, X4, ⟨Lc4, hQ4, l4, y4, z4⟩, st4⟩ := X3.virtualBack hx (y := (⟨"java/lang/Integer", "intValue", "()I"⟩ : MethodName)) (z := (⟨"java/lang/Integer", "intValue", "()I"⟩ : MethodName)) hown (mvT hZ (hw _ (List.mem_of_getElem? (i := 139) rfl))) (mvT hZ (hw _ (List.mem_of_getElem? (i := 140) rfl))) (notFace_of_selects (args := #[]) (mvT hZ (hw _ (List.mem_of_getElem? (i := 142) rfl)))) (mvT hZ (hw _ (List.mem_of_getElem? (i := 142) rfl))) (mvT hZ (hw _ (List.mem_of_getElem? (i := 141) rfl))) (by decide) (backOf (W := 0) (own_iv l Z a0 hw [] x i h0 n0 O0  pm_F_x_value) hZ (hw _ (List.mem_of_getElem? (i := 143) rfl)) (hw _ (List.mem_of_getElem? (i := 28) rfl)) (by decide) (by decide)) q4a q4c (g := (mkF m 13 #[.val (.ref q)] [(.ref x)])) rfl (by rw [hml]; rfl) (Steps.refl _) (argsL := []) (rest := []) (lenOf own_pd8 rfl) rfl (by show 2 * 0 + _ ≤ _; exact Nat.le_of_eq rfl) (hb hby own_d13_13) (fun _ _ => ⟨rfl, e3, (by decide : 0 + 0 ≤ _), (by decide : 0 + 0 ≤ _)⟩)
  dsimp only [Pt.U, Pt.locs, Pt.cells, Pt.slots] at X4 l4 y4 z4 st4 hQ4
  subst l4 y4 z4
  obtain ⟨rfl, rfl, e4⟩ := hQ4
  try rw [List.append_nil] at X4
  obtain ⟨fs, hr, hrun, hended, hW, hsame⟩ := X4.leave (v := some (.int i)) (fun h => by rw [Bd.returns] at h; cases h)
  refine ⟨_, _, pre0 _ ?_, hrun, hended, _, _, rfl, ?_, ⟨_, rfl⟩, hW, hsame.mono (by decide) (by decide)⟩
  · show Steps p.tables e below (s₁.setTop (mkF m 0 #[.val (.ref q)] [])) _
    refine XS.aloadN X0.here hx rfl (hb hby own_d13_0) rfl rfl ?_
    show Steps p.tables e below (s₁.setTop (mkF m 1 #[.val (.ref q)] [(.ref q)])) _
    refine st1 _ ?_
    show Steps p.tables e below (T1.setTop (mkF m 4 #[.val (.ref q)] [(.ref a)])) _
    refine XS.iconst X1.here hx rfl (hb hby own_d13_4) ?_
    show Steps p.tables e below (T1.setTop (mkF m 5 #[.val (.ref q)] [(.int (0 : Int32)), (.ref a)])) _
    refine st2.trans ?_
    show Steps p.tables e below (T2.setTop (mkF m 10 #[.val (.ref q)] [(.ref x)])) _
    refine st3 _ ?_
    show Steps p.tables e below (T3.setTop (mkF m 13 #[.val (.ref q)] [(.ref x)])) _
    refine st4.trans ?_
    show Steps p.tables e below (T4.setTop (mkF m 16 #[.val (.ref q)] [(.int i)])) _
    exact retI X4 hx Bd.returns (hb hby own_d13_16) hr
  · show own_Q_art1 Z q a ea vs x i h0 n0 _ T4.heap _
    rw [e4]
    exact ⟨rfl, rfl, rfl⟩
def own_Q_art2 (Z : State) (q : Addr) (a : Addr) (ea : Addr) (vs : Nat → Value) (x : Addr) (i : Int32) (h0 : Heap) (n0 : Nat) (vv_ : Option Value) (hh_ : Heap) (LL_ : List Loc) : Prop := vv_ = some (.int i) ∧ LL_ = [] ∧ hh_ = h0
set_option maxRecDepth 65536 in
set_option maxHeartbeats 40000000 in
theorem own_art2 (l : Launch) (Z : State) (a0 : Array Value) (hw : ∀ d ∈ tables_1, d.before a0 Z = true) (ws : List Jvm.Cond) (q : Addr) (a : Addr) (ea : Addr) (vs : Nat → Value) (x : Addr) (i : Int32) (h0 : Heap) (n0 : Nat) (O0 : Old Z n0 h0)  (pm_F_q_value : Fld Z h0 q "com/example/witnesseth/witnesseth/HeadingLine" "value" "Ljava/util/List;" (.ref a)) (pm_L_a : own_AL Z h0 a ea (2 : Int32) vs) (pm_E_x : Exa Z h0 x "java/lang/Integer") (pm_F_x_value : Fld Z h0 x "java/lang/Integer" "value" "I" (.int i)) (hv0 : vs 0 = .ref x) :
    MetFree l (⟨"com/example/witnesseth/witnesseth/HeadingLine", "article", "()I"⟩ : MethodName) (head1 (Jvm.Cond.code (⟨"com/example/witnesseth/witnesseth/HeadingLine", "article", "()I"⟩ : MethodName) prog_64_method_12_code 1 (some .int) :: ws) ({ frames := 3, cells := 0, slots := 0, locals := 40 } : Room)) (fun aa_ U_ => aa_ = #[(.ref q)] ∧ Z.Warmed39 U_.vm ∧ U_.heap = h0) (fun _ _ _ _ _ => True) (fun _ U_ oo_ UU_ => ∃ vv_ LL_, oo_ = .returned vv_ ∧ own_Q_art2 Z q a ea vs x i h0 n0 vv_ UU_.heap LL_ ∧ FrameEnd U_ oo_ UU_ LL_ ({ frames := 3, cells := 0, slots := 0, locals := 40 } : Room).cells ({ frames := 3, cells := 0, slots := 0, locals := 40 } : Room).slots) := by
  refine MetFree.of_bodySF (plainFor_of_name own_pn8) hisR ?_
  intro p e s m args below meth c s₁ Bd hml0 hP hK
  obtain ⟨rfl, hZ, hh⟩ := hP
  have hx := Bd.exec
  have hby := Bd.bytes
  have hml : c.maxLocals = 1 := hml0
  have hown : s.vm.findClass "com/example/witnesseth/witnesseth/HeadingLine" = some m.cls := findClass_of_methodNamed Bd.named
  have hnm := (name_of_methodNamed Bd.named Bd.method).1
  have X0 : Stand p l e ({ frames := 3, cells := 0, slots := 0, locals := 40 } : Room) s m #[(.ref q)] below meth c s₁ [] 0 0 := Stand.of_body Bd
  have e0 : s₁.heap = h0 := by rw [← hh, Bd.state]; rfl
  have N0 := Fr.nil n0
  have pre0 : ∀ tt_, Steps p.tables e below (s₁.setTop (mkF m 0 #[.val (.ref q)] [])) tt_ → Steps p.tables e below (s₁.setTop (entryFrame m #[(.ref q)] 1)) tt_ := fun tt_ kk_ => castTop (own_ef13 m q) kk_
  obtain ⟨T1, X1, e1, st1⟩ := getF X0 hx hZ hown (host := "") (Or.inl (hw _ (List.mem_of_getElem? (i := 101) rfl))) Via.refl e0 pm_F_q_value (g := (mkF m 1 #[.val (.ref q)] [(.ref q)])) rfl rfl (hb hby own_d13_1)
  obtain ⟨cq2, kq2, q2a, q2b, q2c⟩ := isOf hZ e1 pm_L_a.1
  obtain ⟨_, _, ⟨T2, L2, k2, n2⟩, -, X2, ⟨Lc2, hQ2, l2, y2, z2⟩, st2⟩ := X1.interfaceBack hx (xi := (⟨"java/util/List", "get", "(I)Ljava/lang/Object;"⟩ : MethodName)) (y := (⟨"java/util/ArrayList", "get", "(I)Ljava/lang/Object;"⟩ : MethodName)) hown (mvT hZ (hw _ (List.mem_of_getElem? (i := 116) rfl))) (mvT hZ (hw _ (List.mem_of_getElem? (i := 117) rfl))) (mvT hZ (hw _ (List.mem_of_getElem? (i := 118) rfl))) (mvT hZ (hw _ (List.mem_of_getElem? (i := 119) rfl))) (mvT hZ (hw _ (List.mem_of_getElem? (i := 120) rfl))) (mvT hZ (hw _ (List.mem_of_getElem? (i := 121) rfl))) (mvT hZ (hw _ (List.mem_of_getElem? (i := 122) rfl))) (mvT hZ (hw _ (List.mem_of_getElem? (i := 40) rfl))) (by decide) (backOf (W := 0) (own_get2 l Z a0 hw [] a x ea vs h0 n0 O0  pm_L_a hv0) hZ (hw _ (List.mem_of_getElem? (i := 123) rfl)) (hw _ (List.mem_of_getElem? (i := 2) rfl)) (by decide) (by decide)) q2a q2b q2c (g := (mkF m 5 #[.val (.ref q)] [(.int (0 : Int32)), (.ref a)])) rfl (by rw [hml]; rfl) (Steps.refl _) (argsL := [(.int (0 : Int32))]) (rest := []) (lenOf own_pd6 rfl) rfl (by show 2 * 0 + _ ≤ _; exact Nat.le_of_eq rfl) (hb hby own_d13_5) (fun _ _ => ⟨rfl, e1, (by decide : 0 + 0 ≤ _), (by decide : 0 + 0 ≤ _)⟩)
  dsimp only [Pt.U, Pt.locs, Pt.cells, Pt.slots] at X2 l2 y2 z2 st2 hQ2
  subst l2 y2 z2
  obtain ⟨rfl, rfl, e2⟩ := hQ2
  try rw [List.append_nil] at X2
  obtain ⟨T3, X3, e3, st3⟩ := castY X2 hx hZ hown (hw _ (List.mem_of_getElem? (i := 137) rfl)) e2 (Ins.self pm_E_x) (g := (mkF m 10 #[.val (.ref q)] [(.ref x)])) rfl rfl (hb hby own_d13_10)
  obtain ⟨cq4, kq4, q4a, q4b, q4c⟩ := isOf hZ e3 pm_E_x
  obtain ⟨_, _, ⟨T4, L4, k4, n4⟩, -, X4, ⟨Lc4, hQ4, l4, y4, z4⟩, st4⟩ := X3.virtualBack hx (y := (⟨"java/lang/Integer", "intValue", "()I"⟩ : MethodName)) (z := (⟨"java/lang/Integer", "intValue", "()I"⟩ : MethodName)) hown (mvT hZ (hw _ (List.mem_of_getElem? (i := 139) rfl))) (mvT hZ (hw _ (List.mem_of_getElem? (i := 140) rfl))) (notFace_of_selects (args := #[]) (mvT hZ (hw _ (List.mem_of_getElem? (i := 142) rfl)))) (mvT hZ (hw _ (List.mem_of_getElem? (i := 142) rfl))) (mvT hZ (hw _ (List.mem_of_getElem? (i := 141) rfl))) (by decide) (backOf (W := 0) (own_iv l Z a0 hw [] x i h0 n0 O0  pm_F_x_value) hZ (hw _ (List.mem_of_getElem? (i := 143) rfl)) (hw _ (List.mem_of_getElem? (i := 28) rfl)) (by decide) (by decide)) q4a q4c (g := (mkF m 13 #[.val (.ref q)] [(.ref x)])) rfl (by rw [hml]; rfl) (Steps.refl _) (argsL := []) (rest := []) (lenOf own_pd8 rfl) rfl (by show 2 * 0 + _ ≤ _; exact Nat.le_of_eq rfl) (hb hby own_d13_13) (fun _ _ => ⟨rfl, e3, (by decide : 0 + 0 ≤ _), (by decide : 0 + 0 ≤ _)⟩)
  dsimp only [Pt.U, Pt.locs, Pt.cells, Pt.slots] at X4 l4 y4 z4 st4 hQ4
  subst l4 y4 z4
  obtain ⟨rfl, rfl, e4⟩ := hQ4
  try rw [List.append_nil] at X4
  obtain ⟨fs, hr, hrun, hended, hW, hsame⟩ := X4.leave (v := some (.int i)) (fun h => by rw [Bd.returns] at h; cases h)
  refine ⟨_, _, pre0 _ ?_, hrun, hended, _, _, rfl, ?_, ⟨_, rfl⟩, hW, hsame.mono (by decide) (by decide)⟩
  · show Steps p.tables e below (s₁.setTop (mkF m 0 #[.val (.ref q)] [])) _
    refine XS.aloadN X0.here hx rfl (hb hby own_d13_0) rfl rfl ?_
    show Steps p.tables e below (s₁.setTop (mkF m 1 #[.val (.ref q)] [(.ref q)])) _
    refine st1 _ ?_
    show Steps p.tables e below (T1.setTop (mkF m 4 #[.val (.ref q)] [(.ref a)])) _
    refine XS.iconst X1.here hx rfl (hb hby own_d13_4) ?_
    show Steps p.tables e below (T1.setTop (mkF m 5 #[.val (.ref q)] [(.int (0 : Int32)), (.ref a)])) _
    refine st2.trans ?_
    show Steps p.tables e below (T2.setTop (mkF m 10 #[.val (.ref q)] [(.ref x)])) _
    refine st3 _ ?_
    show Steps p.tables e below (T3.setTop (mkF m 13 #[.val (.ref q)] [(.ref x)])) _
    refine st4.trans ?_
    show Steps p.tables e below (T4.setTop (mkF m 16 #[.val (.ref q)] [(.int i)])) _
    exact retI X4 hx Bd.returns (hb hby own_d13_16) hr
  · show own_Q_art2 Z q a ea vs x i h0 n0 _ T4.heap _
    rw [e4]
    exact ⟨rfl, rfl, rfl⟩
def own_Q_art3 (Z : State) (q : Addr) (a : Addr) (ea : Addr) (vs : Nat → Value) (x : Addr) (i : Int32) (h0 : Heap) (n0 : Nat) (vv_ : Option Value) (hh_ : Heap) (LL_ : List Loc) : Prop := vv_ = some (.int i) ∧ LL_ = [] ∧ hh_ = h0
set_option maxRecDepth 65536 in
set_option maxHeartbeats 40000000 in
theorem own_art3 (l : Launch) (Z : State) (a0 : Array Value) (hw : ∀ d ∈ tables_1, d.before a0 Z = true) (ws : List Jvm.Cond) (q : Addr) (a : Addr) (ea : Addr) (vs : Nat → Value) (x : Addr) (i : Int32) (h0 : Heap) (n0 : Nat) (O0 : Old Z n0 h0)  (pm_F_q_value : Fld Z h0 q "com/example/witnesseth/witnesseth/HeadingLine" "value" "Ljava/util/List;" (.ref a)) (pm_L_a : own_AL Z h0 a ea (3 : Int32) vs) (pm_E_x : Exa Z h0 x "java/lang/Integer") (pm_F_x_value : Fld Z h0 x "java/lang/Integer" "value" "I" (.int i)) (hv0 : vs 0 = .ref x) :
    MetFree l (⟨"com/example/witnesseth/witnesseth/HeadingLine", "article", "()I"⟩ : MethodName) (head1 (Jvm.Cond.code (⟨"com/example/witnesseth/witnesseth/HeadingLine", "article", "()I"⟩ : MethodName) prog_64_method_12_code 1 (some .int) :: ws) ({ frames := 3, cells := 0, slots := 0, locals := 40 } : Room)) (fun aa_ U_ => aa_ = #[(.ref q)] ∧ Z.Warmed39 U_.vm ∧ U_.heap = h0) (fun _ _ _ _ _ => True) (fun _ U_ oo_ UU_ => ∃ vv_ LL_, oo_ = .returned vv_ ∧ own_Q_art3 Z q a ea vs x i h0 n0 vv_ UU_.heap LL_ ∧ FrameEnd U_ oo_ UU_ LL_ ({ frames := 3, cells := 0, slots := 0, locals := 40 } : Room).cells ({ frames := 3, cells := 0, slots := 0, locals := 40 } : Room).slots) := by
  refine MetFree.of_bodySF (plainFor_of_name own_pn8) hisR ?_
  intro p e s m args below meth c s₁ Bd hml0 hP hK
  obtain ⟨rfl, hZ, hh⟩ := hP
  have hx := Bd.exec
  have hby := Bd.bytes
  have hml : c.maxLocals = 1 := hml0
  have hown : s.vm.findClass "com/example/witnesseth/witnesseth/HeadingLine" = some m.cls := findClass_of_methodNamed Bd.named
  have hnm := (name_of_methodNamed Bd.named Bd.method).1
  have X0 : Stand p l e ({ frames := 3, cells := 0, slots := 0, locals := 40 } : Room) s m #[(.ref q)] below meth c s₁ [] 0 0 := Stand.of_body Bd
  have e0 : s₁.heap = h0 := by rw [← hh, Bd.state]; rfl
  have N0 := Fr.nil n0
  have pre0 : ∀ tt_, Steps p.tables e below (s₁.setTop (mkF m 0 #[.val (.ref q)] [])) tt_ → Steps p.tables e below (s₁.setTop (entryFrame m #[(.ref q)] 1)) tt_ := fun tt_ kk_ => castTop (own_ef13 m q) kk_
  obtain ⟨T1, X1, e1, st1⟩ := getF X0 hx hZ hown (host := "") (Or.inl (hw _ (List.mem_of_getElem? (i := 101) rfl))) Via.refl e0 pm_F_q_value (g := (mkF m 1 #[.val (.ref q)] [(.ref q)])) rfl rfl (hb hby own_d13_1)
  obtain ⟨cq2, kq2, q2a, q2b, q2c⟩ := isOf hZ e1 pm_L_a.1
  obtain ⟨_, _, ⟨T2, L2, k2, n2⟩, -, X2, ⟨Lc2, hQ2, l2, y2, z2⟩, st2⟩ := X1.interfaceBack hx (xi := (⟨"java/util/List", "get", "(I)Ljava/lang/Object;"⟩ : MethodName)) (y := (⟨"java/util/ArrayList", "get", "(I)Ljava/lang/Object;"⟩ : MethodName)) hown (mvT hZ (hw _ (List.mem_of_getElem? (i := 116) rfl))) (mvT hZ (hw _ (List.mem_of_getElem? (i := 117) rfl))) (mvT hZ (hw _ (List.mem_of_getElem? (i := 118) rfl))) (mvT hZ (hw _ (List.mem_of_getElem? (i := 119) rfl))) (mvT hZ (hw _ (List.mem_of_getElem? (i := 120) rfl))) (mvT hZ (hw _ (List.mem_of_getElem? (i := 121) rfl))) (mvT hZ (hw _ (List.mem_of_getElem? (i := 122) rfl))) (mvT hZ (hw _ (List.mem_of_getElem? (i := 40) rfl))) (by decide) (backOf (W := 0) (own_get3 l Z a0 hw [] a x ea vs h0 n0 O0  pm_L_a hv0) hZ (hw _ (List.mem_of_getElem? (i := 123) rfl)) (hw _ (List.mem_of_getElem? (i := 2) rfl)) (by decide) (by decide)) q2a q2b q2c (g := (mkF m 5 #[.val (.ref q)] [(.int (0 : Int32)), (.ref a)])) rfl (by rw [hml]; rfl) (Steps.refl _) (argsL := [(.int (0 : Int32))]) (rest := []) (lenOf own_pd6 rfl) rfl (by show 2 * 0 + _ ≤ _; exact Nat.le_of_eq rfl) (hb hby own_d13_5) (fun _ _ => ⟨rfl, e1, (by decide : 0 + 0 ≤ _), (by decide : 0 + 0 ≤ _)⟩)
  dsimp only [Pt.U, Pt.locs, Pt.cells, Pt.slots] at X2 l2 y2 z2 st2 hQ2
  subst l2 y2 z2
  obtain ⟨rfl, rfl, e2⟩ := hQ2
  try rw [List.append_nil] at X2
  obtain ⟨T3, X3, e3, st3⟩ := castY X2 hx hZ hown (hw _ (List.mem_of_getElem? (i := 137) rfl)) e2 (Ins.self pm_E_x) (g := (mkF m 10 #[.val (.ref q)] [(.ref x)])) rfl rfl (hb hby own_d13_10)
  obtain ⟨cq4, kq4, q4a, q4b, q4c⟩ := isOf hZ e3 pm_E_x
  obtain ⟨_, _, ⟨T4, L4, k4, n4⟩, -, X4, ⟨Lc4, hQ4, l4, y4, z4⟩, st4⟩ := X3.virtualBack hx (y := (⟨"java/lang/Integer", "intValue", "()I"⟩ : MethodName)) (z := (⟨"java/lang/Integer", "intValue", "()I"⟩ : MethodName)) hown (mvT hZ (hw _ (List.mem_of_getElem? (i := 139) rfl))) (mvT hZ (hw _ (List.mem_of_getElem? (i := 140) rfl))) (notFace_of_selects (args := #[]) (mvT hZ (hw _ (List.mem_of_getElem? (i := 142) rfl)))) (mvT hZ (hw _ (List.mem_of_getElem? (i := 142) rfl))) (mvT hZ (hw _ (List.mem_of_getElem? (i := 141) rfl))) (by decide) (backOf (W := 0) (own_iv l Z a0 hw [] x i h0 n0 O0  pm_F_x_value) hZ (hw _ (List.mem_of_getElem? (i := 143) rfl)) (hw _ (List.mem_of_getElem? (i := 28) rfl)) (by decide) (by decide)) q4a q4c (g := (mkF m 13 #[.val (.ref q)] [(.ref x)])) rfl (by rw [hml]; rfl) (Steps.refl _) (argsL := []) (rest := []) (lenOf own_pd8 rfl) rfl (by show 2 * 0 + _ ≤ _; exact Nat.le_of_eq rfl) (hb hby own_d13_13) (fun _ _ => ⟨rfl, e3, (by decide : 0 + 0 ≤ _), (by decide : 0 + 0 ≤ _)⟩)
  dsimp only [Pt.U, Pt.locs, Pt.cells, Pt.slots] at X4 l4 y4 z4 st4 hQ4
  subst l4 y4 z4
  obtain ⟨rfl, rfl, e4⟩ := hQ4
  try rw [List.append_nil] at X4
  obtain ⟨fs, hr, hrun, hended, hW, hsame⟩ := X4.leave (v := some (.int i)) (fun h => by rw [Bd.returns] at h; cases h)
  refine ⟨_, _, pre0 _ ?_, hrun, hended, _, _, rfl, ?_, ⟨_, rfl⟩, hW, hsame.mono (by decide) (by decide)⟩
  · show Steps p.tables e below (s₁.setTop (mkF m 0 #[.val (.ref q)] [])) _
    refine XS.aloadN X0.here hx rfl (hb hby own_d13_0) rfl rfl ?_
    show Steps p.tables e below (s₁.setTop (mkF m 1 #[.val (.ref q)] [(.ref q)])) _
    refine st1 _ ?_
    show Steps p.tables e below (T1.setTop (mkF m 4 #[.val (.ref q)] [(.ref a)])) _
    refine XS.iconst X1.here hx rfl (hb hby own_d13_4) ?_
    show Steps p.tables e below (T1.setTop (mkF m 5 #[.val (.ref q)] [(.int (0 : Int32)), (.ref a)])) _
    refine st2.trans ?_
    show Steps p.tables e below (T2.setTop (mkF m 10 #[.val (.ref q)] [(.ref x)])) _
    refine st3 _ ?_
    show Steps p.tables e below (T3.setTop (mkF m 13 #[.val (.ref q)] [(.ref x)])) _
    refine st4.trans ?_
    show Steps p.tables e below (T4.setTop (mkF m 16 #[.val (.ref q)] [(.int i)])) _
    exact retI X4 hx Bd.returns (hb hby own_d13_16) hr
  · show own_Q_art3 Z q a ea vs x i h0 n0 _ T4.heap _
    rw [e4]
    exact ⟨rfl, rfl, rfl⟩
def own_hr (kA kS kq kt : Addr) (i j rb : Int32) : Prop := ((kq = kA ∧ ((kt = kS ∧ ((j = i ∧ rb = (1 : Int32)) ∨ (¬ (j = i) ∧ rb = (0 : Int32)))) ∨ (¬ (kt = kS) ∧ rb = (0 : Int32)))) ∨ (¬ (kq = kA) ∧ rb = (0 : Int32)))
theorem own_bn {kA kS kq kt : Addr} {i j rb : Int32} (h : own_hr kA kS kq kt i j rb) : nar .boolean rb = rb := by
  rcases h with ⟨-, ⟨-, ⟨-, rfl⟩ | ⟨-, rfl⟩⟩ | ⟨-, rfl⟩⟩ | ⟨-, rfl⟩ <;> decide
theorem own_d19_0 : decode prog_64_method_13_code 0 = .ok (.aload_n 0, 1) := by decide +kernel
theorem own_d19_1 : decode prog_64_method_13_code 1 = .ok (.getfield 13, 3) := by decide +kernel
theorem own_d19_4 : decode prog_64_method_13_code 4 = .ok (.getstatic 194, 3) := by decide +kernel
theorem own_d19_7 : decode prog_64_method_13_code 7 = .ok (.if_acmp .ne 28, 3) := by decide +kernel
theorem own_d19_10 : decode prog_64_method_13_code 10 = .ok (.aload_n 1, 1) := by decide +kernel
theorem own_d19_11 : decode prog_64_method_13_code 11 = .ok (.getfield 13, 3) := by decide +kernel
theorem own_d19_14 : decode prog_64_method_13_code 14 = .ok (.getstatic 233, 3) := by decide +kernel
theorem own_d19_17 : decode prog_64_method_13_code 17 = .ok (.if_acmp .ne 18, 3) := by decide +kernel
theorem own_d19_20 : decode prog_64_method_13_code 20 = .ok (.aload_n 1, 1) := by decide +kernel
theorem own_d19_21 : decode prog_64_method_13_code 21 = .ok (.invokevirtual 260, 3) := by decide +kernel
theorem own_d19_24 : decode prog_64_method_13_code 24 = .ok (.aload_n 0, 1) := by decide +kernel
theorem own_d19_25 : decode prog_64_method_13_code 25 = .ok (.invokevirtual 260, 3) := by decide +kernel
theorem own_d19_28 : decode prog_64_method_13_code 28 = .ok (.if_icmp .ne 7, 3) := by decide +kernel
theorem own_d19_31 : decode prog_64_method_13_code 31 = .ok (.iconst 1, 1) := by decide +kernel
theorem own_d19_32 : decode prog_64_method_13_code 32 = .ok (.goto 4, 3) := by decide +kernel
theorem own_d19_35 : decode prog_64_method_13_code 35 = .ok (.iconst 0, 1) := by decide +kernel
theorem own_d19_36 : decode prog_64_method_13_code 36 = .ok (.ireturn, 1) := by decide +kernel
def own_Q_h3_11 (Z : State) (q : Addr) (t : Addr) (D : Addr) (cD : Cell) (ich : Addr) (icc : Cell) (kA : Addr) (kS : Addr) (f0 : Addr) (f1 : Addr) (f2 : Addr) (f3 : Addr) (kq : Addr) (kt : Addr) (a : Addr) (ea : Addr) (vs : Nat → Value) (x : Addr) (i : Int32) (a2 : Addr) (ea2 : Addr) (vs2 : Nat → Value) (x2 : Addr) (i2 : Int32) (h0 : Heap) (n0 : Nat) (vv_ : Option Value) (hh_ : Heap) (LL_ : List Loc) : Prop := ∃ rb : Int32, vv_ = some (.int rb) ∧ LL_ = [] ∧ hh_ = h0 ∧ own_hr kA kS kq kt i i2 rb
theorem own_ef19 (m : MethodId) (x0 : Addr) (x1 : Addr) : entryFrame m #[(.ref x0), (.ref x1)] 2 = mkF m 0 #[.val (.ref x0), .val (.ref x1)] [] := by first | (simp [entryFrame, mkF, argsToLocals, Value.category]; done) | rfl
set_option maxRecDepth 65536 in
set_option maxHeartbeats 40000000 in
theorem own_h3_11 (l : Launch) (Z : State) (a0 : Array Value) (hw : ∀ d ∈ tables_1, d.before a0 Z = true) (ws : List Jvm.Cond) (q : Addr) (t : Addr) (D : Addr) (cD : Cell) (ich : Addr) (icc : Cell) (kA : Addr) (kS : Addr) (f0 : Addr) (f1 : Addr) (f2 : Addr) (f3 : Addr) (kq : Addr) (kt : Addr) (a : Addr) (ea : Addr) (vs : Nat → Value) (x : Addr) (i : Int32) (a2 : Addr) (ea2 : Addr) (vs2 : Nat → Value) (x2 : Addr) (i2 : Int32) (h0 : Heap) (n0 : Nat) (O0 : Old Z n0 h0) (K : own_W Z D cD ich icc kA kS f0 f1 f2 f3) (pm_E_q : Exa Z h0 q "com/example/witnesseth/witnesseth/HeadingLine") (pm_E_t : Exa Z h0 t "com/example/witnesseth/witnesseth/HeadingLine") (pm_F_q_kind : Fld Z h0 q "com/example/witnesseth/witnesseth/HeadingLine" "kind" "Lcom/example/witnesseth/witnesseth/Heading$Kind;" (.ref kq)) (pm_F_t_kind : Fld Z h0 t "com/example/witnesseth/witnesseth/HeadingLine" "kind" "Lcom/example/witnesseth/witnesseth/Heading$Kind;" (.ref kt)) (pm_F_q_value : Fld Z h0 q "com/example/witnesseth/witnesseth/HeadingLine" "value" "Ljava/util/List;" (.ref a)) (pm_L_a : own_AL Z h0 a ea (1 : Int32) vs) (pm_E_x : Exa Z h0 x "java/lang/Integer") (pm_F_x_value : Fld Z h0 x "java/lang/Integer" "value" "I" (.int i)) (hv0 : vs 0 = .ref x) (pm_F_t_value : Fld Z h0 t "com/example/witnesseth/witnesseth/HeadingLine" "value" "Ljava/util/List;" (.ref a2)) (pm_L_a2 : own_AL Z h0 a2 ea2 (1 : Int32) vs2) (pm_E_x2 : Exa Z h0 x2 "java/lang/Integer") (pm_F_x2_value : Fld Z h0 x2 "java/lang/Integer" "value" "I" (.int i2)) (hv2 : vs2 0 = .ref x2) :
    MetFree l (⟨"com/example/witnesseth/witnesseth/HeadingLine", "holds", "(Lcom/example/witnesseth/witnesseth/HeadingLine;)Z"⟩ : MethodName) (head1 (Jvm.Cond.code (⟨"com/example/witnesseth/witnesseth/HeadingLine", "holds", "(Lcom/example/witnesseth/witnesseth/HeadingLine;)Z"⟩ : MethodName) prog_64_method_13_code 2 (some .boolean) :: ws) ({ frames := 4, cells := 0, slots := 0, locals := 53 } : Room)) (fun aa_ U_ => aa_ = #[(.ref q), (.ref t)] ∧ Z.Warmed39 U_.vm ∧ U_.heap = h0) (fun _ _ _ _ _ => True) (fun _ U_ oo_ UU_ => ∃ vv_ LL_, oo_ = .returned vv_ ∧ own_Q_h3_11 Z q t D cD ich icc kA kS f0 f1 f2 f3 kq kt a ea vs x i a2 ea2 vs2 x2 i2 h0 n0 vv_ UU_.heap LL_ ∧ FrameEnd U_ oo_ UU_ LL_ ({ frames := 4, cells := 0, slots := 0, locals := 53 } : Room).cells ({ frames := 4, cells := 0, slots := 0, locals := 53 } : Room).slots) := by
  have KK := K
  obtain ⟨SD, AD0, zD, SH, SC, AC0, zC, vC, SA, SS, neAS, S0, S1, S2, S3⟩ := KK
  refine MetFree.of_bodySF (plainFor_of_name own_pn8) hisR ?_
  intro p e s m args below meth c s₁ Bd hml0 hP hK
  obtain ⟨rfl, hZ, hh⟩ := hP
  have hx := Bd.exec
  have hby := Bd.bytes
  have hml : c.maxLocals = 2 := hml0
  have hown : s.vm.findClass "com/example/witnesseth/witnesseth/HeadingLine" = some m.cls := findClass_of_methodNamed Bd.named
  have hnm := (name_of_methodNamed Bd.named Bd.method).1
  have X0 : Stand p l e ({ frames := 4, cells := 0, slots := 0, locals := 53 } : Room) s m #[(.ref q), (.ref t)] below meth c s₁ [] 0 0 := Stand.of_body Bd
  have e0 : s₁.heap = h0 := by rw [← hh, Bd.state]; rfl
  have N0 := Fr.nil n0
  have pre0 : ∀ tt_, Steps p.tables e below (s₁.setTop (mkF m 0 #[.val (.ref q), .val (.ref t)] [])) tt_ → Steps p.tables e below (s₁.setTop (entryFrame m #[(.ref q), (.ref t)] 2)) tt_ := fun tt_ kk_ => castTop (own_ef19 m q t) kk_
  obtain ⟨T1, X1, e1, st1⟩ := getF X0 hx hZ hown (host := "") (Or.inl (hw _ (List.mem_of_getElem? (i := 97) rfl))) Via.refl e0 pm_F_q_kind (g := (mkF m 1 #[.val (.ref q), .val (.ref t)] [(.ref q)])) rfl rfl (hb hby own_d19_1)
  obtain ⟨T2, X2, e2, st2⟩ := getS2 X1 hx hZ hown (host := "") (Or.inl (hw _ (List.mem_of_getElem? (i := 151) rfl))) Via.refl e1 (SA.ext O0.2) (g := (mkF m 4 #[.val (.ref q), .val (.ref t)] [(.ref kq)])) rfl (hb hby own_d19_4)
  obtain ⟨T3, rb, hv3, ⟨X3, e3⟩, st3⟩ : ∃ (T' : State) (rb : Int32), ((kq = kA ∧ ((kt = kS ∧ ((i2 = i ∧ rb = (1 : Int32)) ∨ (¬ (i2 = i) ∧ rb = (0 : Int32)))) ∨ (¬ (kt = kS) ∧ rb = (0 : Int32)))) ∨ (¬ (kq = kA) ∧ rb = (0 : Int32))) ∧ own_Go X2 h0 T' ∧ ∀ target, Steps p.tables e below (T'.setTop (mkF m 36 #[.val (.ref q), .val (.ref t)] [(.int rb)])) target → Steps p.tables e below (T2.setTop (mkF m 7 #[.val (.ref q), .val (.ref t)] [(.ref kA), (.ref kq)])) target := by
    by_cases hf3 : kq = kA
    · obtain ⟨T4, X4, e4, st4⟩ := getF X2 hx hZ hown (host := "") (Or.inl (hw _ (List.mem_of_getElem? (i := 97) rfl))) Via.refl e2 pm_F_t_kind (g := (mkF m 11 #[.val (.ref q), .val (.ref t)] [(.ref t)])) rfl rfl (hb hby own_d19_11)
      obtain ⟨T5, X5, e5, st5⟩ := getS2 X4 hx hZ hown (host := "") (Or.inl (hw _ (List.mem_of_getElem? (i := 152) rfl))) Via.refl e4 (SS.ext O0.2) (g := (mkF m 14 #[.val (.ref q), .val (.ref t)] [(.ref kt)])) rfl (hb hby own_d19_14)
      obtain ⟨T6, w6_0, hv6, ⟨X6, e6⟩, st6⟩ : ∃ (T' : State) (w6_0 : Int32), ((kt = kS ∧ ((i2 = i ∧ w6_0 = (1 : Int32)) ∨ (¬ (i2 = i) ∧ w6_0 = (0 : Int32)))) ∨ (¬ (kt = kS) ∧ w6_0 = (0 : Int32))) ∧ own_Go X5 h0 T' ∧ ∀ target, Steps p.tables e below (T'.setTop (mkF m 36 #[.val (.ref q), .val (.ref t)] [(.int w6_0)])) target → Steps p.tables e below (T5.setTop (mkF m 17 #[.val (.ref q), .val (.ref t)] [(.ref kS), (.ref kt)])) target := by
        by_cases hf6 : kt = kS
        · obtain ⟨cq7, kq7, q7a, q7b, q7c⟩ := isOf hZ e5 pm_E_t
          obtain ⟨_, _, ⟨T7, L7, k7, n7⟩, -, X7, ⟨Lc7, hQ7, l7, y7, z7⟩, st7⟩ := X5.virtualBack hx (y := (⟨"com/example/witnesseth/witnesseth/HeadingLine", "article", "()I"⟩ : MethodName)) (z := (⟨"com/example/witnesseth/witnesseth/HeadingLine", "article", "()I"⟩ : MethodName)) hown (mvT hZ (hw _ (List.mem_of_getElem? (i := 167) rfl))) (mvT hZ (hw _ (List.mem_of_getElem? (i := 112) rfl))) (notFace_of_selects (args := #[]) (mvT hZ (hw _ (List.mem_of_getElem? (i := 114) rfl)))) (mvT hZ (hw _ (List.mem_of_getElem? (i := 114) rfl))) (mvT hZ (hw _ (List.mem_of_getElem? (i := 113) rfl))) (by decide) (backOf (W := 0) (own_art1 l Z a0 hw [] t a2 ea2 vs2 x2 i2 h0 n0 O0  pm_F_t_value pm_L_a2 pm_E_x2 pm_F_x2_value hv2) hZ (hw _ (List.mem_of_getElem? (i := 115) rfl)) (hw _ (List.mem_of_getElem? (i := 76) rfl)) (by decide) (by decide)) q7a q7c (g := (mkF m 21 #[.val (.ref q), .val (.ref t)] [(.ref t)])) rfl (by rw [hml]; rfl) (Steps.refl _) (argsL := []) (rest := []) (lenOf own_pd8 rfl) rfl (by show 2 * 0 + _ ≤ _; exact Nat.le_of_eq rfl) (hb hby own_d19_21) (fun _ _ => ⟨rfl, e5, (by decide : 0 + 0 ≤ _), (by decide : 0 + 0 ≤ _)⟩)
          dsimp only [Pt.U, Pt.locs, Pt.cells, Pt.slots] at X7 l7 y7 z7 st7 hQ7
          subst l7 y7 z7
          obtain ⟨rfl, rfl, e7⟩ := hQ7
          try rw [List.append_nil] at X7
          obtain ⟨cq8, kq8, q8a, q8b, q8c⟩ := isOf hZ e7 pm_E_q
          obtain ⟨_, _, ⟨T8, L8, k8, n8⟩, -, X8, ⟨Lc8, hQ8, l8, y8, z8⟩, st8⟩ := X7.virtualBack hx (y := (⟨"com/example/witnesseth/witnesseth/HeadingLine", "article", "()I"⟩ : MethodName)) (z := (⟨"com/example/witnesseth/witnesseth/HeadingLine", "article", "()I"⟩ : MethodName)) hown (mvT hZ (hw _ (List.mem_of_getElem? (i := 167) rfl))) (mvT hZ (hw _ (List.mem_of_getElem? (i := 112) rfl))) (notFace_of_selects (args := #[]) (mvT hZ (hw _ (List.mem_of_getElem? (i := 114) rfl)))) (mvT hZ (hw _ (List.mem_of_getElem? (i := 114) rfl))) (mvT hZ (hw _ (List.mem_of_getElem? (i := 113) rfl))) (by decide) (backOf (W := 1) (own_art1 l Z a0 hw [] q a ea vs x i h0 n0 O0  pm_F_q_value pm_L_a pm_E_x pm_F_x_value hv0) hZ (hw _ (List.mem_of_getElem? (i := 115) rfl)) (hw _ (List.mem_of_getElem? (i := 76) rfl)) (by decide) (by decide)) q8a q8c (g := (mkF m 25 #[.val (.ref q), .val (.ref t)] [(.ref q), (.int i2)])) rfl (by rw [hml]; rfl) (Steps.refl _) (argsL := []) (rest := [(.int i2)]) (lenOf own_pd8 rfl) rfl (by show 2 * 0 + _ ≤ _; exact Nat.le_of_eq rfl) (hb hby own_d19_25) (fun _ _ => ⟨rfl, e7, (by decide : 0 + 0 ≤ _), (by decide : 0 + 0 ≤ _)⟩)
          dsimp only [Pt.U, Pt.locs, Pt.cells, Pt.slots] at X8 l8 y8 z8 st8 hQ8
          subst l8 y8 z8
          obtain ⟨rfl, rfl, e8⟩ := hQ8
          try rw [List.append_nil] at X8
          obtain ⟨T9, w9_0, hv9, ⟨X9, e9⟩, st9⟩ : ∃ (T' : State) (w9_0 : Int32), ((i2 = i ∧ w9_0 = (1 : Int32)) ∨ (¬ (i2 = i) ∧ w9_0 = (0 : Int32))) ∧ own_Go X8 h0 T' ∧ ∀ target, Steps p.tables e below (T'.setTop (mkF m 36 #[.val (.ref q), .val (.ref t)] [(.int w9_0)])) target → Steps p.tables e below (T8.setTop (mkF m 28 #[.val (.ref q), .val (.ref t)] [(.int i), (.int i2)])) target := by
            by_cases hf9 : i2 = i
            · refine ⟨T8, (1 : Int32), Or.inl ⟨hf9, rfl⟩, ⟨X8, e8⟩, fun target kgo_ => ?_⟩
              show Steps p.tables e below (T8.setTop (mkF m 28 #[.val (.ref q), .val (.ref t)] [(.int i), (.int i2)])) _
              refine XS.icmpNo X8.here hx rfl (hb hby own_d19_28) rfl (teq hf9).2 ?_
              show Steps p.tables e below (T8.setTop (mkF m 31 #[.val (.ref q), .val (.ref t)] [])) _
              refine XS.iconst X8.here hx rfl (hb hby own_d19_31) ?_
              show Steps p.tables e below (T8.setTop (mkF m 32 #[.val (.ref q), .val (.ref t)] [(.int (1 : Int32))])) _
              refine XS.goto X8.here hx rfl (pc0 := 32) (pc' := 36) rfl (hb hby own_d19_32) (by decide) (by decide) ?_
              show Steps p.tables e below (T8.setTop (mkF m 36 #[.val (.ref q), .val (.ref t)] [(.int (1 : Int32))])) _
              exact kgo_
            · refine ⟨T8, (0 : Int32), Or.inr ⟨hf9, rfl⟩, ⟨X8, e8⟩, fun target kgo_ => ?_⟩
              show Steps p.tables e below (T8.setTop (mkF m 28 #[.val (.ref q), .val (.ref t)] [(.int i), (.int i2)])) _
              refine XS.icmpYes X8.here hx rfl (pc0 := 28) (pc' := 35) rfl (hb hby own_d19_28) rfl (feq hf9).2 (by decide) (by decide) ?_
              show Steps p.tables e below (T8.setTop (mkF m 35 #[.val (.ref q), .val (.ref t)] [])) _
              refine XS.iconst X8.here hx rfl (hb hby own_d19_35) ?_
              show Steps p.tables e below (T8.setTop (mkF m 36 #[.val (.ref q), .val (.ref t)] [(.int (0 : Int32))])) _
              exact kgo_
          refine ⟨T9, w9_0, Or.inl ⟨hf6, hv9⟩, ⟨X9, e9⟩, fun target kgo_ => ?_⟩
          show Steps p.tables e below (T5.setTop (mkF m 17 #[.val (.ref q), .val (.ref t)] [(.ref kS), (.ref kt)])) _
          refine Jvm.RoadKit.acmp (g := (mkF m 17 #[.val (.ref q), .val (.ref t)] [(.ref kS), (.ref kt)])) X5 hx rfl rfl rfl (pc0 := 17) (pc' := 20) (same := true) rfl (hb hby own_d19_17) rfl (decide_eq_true (congrArg Value.ref hf6)) (by decide) (by decide) ?_
          show Steps p.tables e below (T5.setTop (mkF m 20 #[.val (.ref q), .val (.ref t)] [])) _
          refine XS.aloadN X5.here hx rfl (hb hby own_d19_20) rfl rfl ?_
          show Steps p.tables e below (T5.setTop (mkF m 21 #[.val (.ref q), .val (.ref t)] [(.ref t)])) _
          refine st7.trans ?_
          show Steps p.tables e below (T7.setTop (mkF m 24 #[.val (.ref q), .val (.ref t)] [(.int i2)])) _
          refine XS.aloadN X7.here hx rfl (hb hby own_d19_24) rfl rfl ?_
          show Steps p.tables e below (T7.setTop (mkF m 25 #[.val (.ref q), .val (.ref t)] [(.ref q), (.int i2)])) _
          refine st8.trans ?_
          refine st9 _ ?_
          show Steps p.tables e below (T9.setTop (mkF m 36 #[.val (.ref q), .val (.ref t)] [(.int w9_0)])) _
          exact kgo_
        · refine ⟨T5, (0 : Int32), Or.inr ⟨hf6, rfl⟩, ⟨X5, e5⟩, fun target kgo_ => ?_⟩
          show Steps p.tables e below (T5.setTop (mkF m 17 #[.val (.ref q), .val (.ref t)] [(.ref kS), (.ref kt)])) _
          refine Jvm.RoadKit.acmp (g := (mkF m 17 #[.val (.ref q), .val (.ref t)] [(.ref kS), (.ref kt)])) X5 hx rfl rfl rfl (pc0 := 17) (pc' := 35) (same := false) rfl (hb hby own_d19_17) rfl (decide_eq_false fun q => hf6 (Value.ref.inj q)) (by decide) (by decide) ?_
          show Steps p.tables e below (T5.setTop (mkF m 35 #[.val (.ref q), .val (.ref t)] [])) _
          refine XS.iconst X5.here hx rfl (hb hby own_d19_35) ?_
          show Steps p.tables e below (T5.setTop (mkF m 36 #[.val (.ref q), .val (.ref t)] [(.int (0 : Int32))])) _
          exact kgo_
      refine ⟨T6, w6_0, Or.inl ⟨hf3, hv6⟩, ⟨X6, e6⟩, fun target kgo_ => ?_⟩
      show Steps p.tables e below (T2.setTop (mkF m 7 #[.val (.ref q), .val (.ref t)] [(.ref kA), (.ref kq)])) _
      refine Jvm.RoadKit.acmp (g := (mkF m 7 #[.val (.ref q), .val (.ref t)] [(.ref kA), (.ref kq)])) X2 hx rfl rfl rfl (pc0 := 7) (pc' := 10) (same := true) rfl (hb hby own_d19_7) rfl (decide_eq_true (congrArg Value.ref hf3)) (by decide) (by decide) ?_
      show Steps p.tables e below (T2.setTop (mkF m 10 #[.val (.ref q), .val (.ref t)] [])) _
      refine XS.aloadN X2.here hx rfl (hb hby own_d19_10) rfl rfl ?_
      show Steps p.tables e below (T2.setTop (mkF m 11 #[.val (.ref q), .val (.ref t)] [(.ref t)])) _
      refine st4 _ ?_
      show Steps p.tables e below (T4.setTop (mkF m 14 #[.val (.ref q), .val (.ref t)] [(.ref kt)])) _
      refine st5 _ ?_
      refine st6 _ ?_
      show Steps p.tables e below (T6.setTop (mkF m 36 #[.val (.ref q), .val (.ref t)] [(.int w6_0)])) _
      exact kgo_
    · refine ⟨T2, (0 : Int32), Or.inr ⟨hf3, rfl⟩, ⟨X2, e2⟩, fun target kgo_ => ?_⟩
      show Steps p.tables e below (T2.setTop (mkF m 7 #[.val (.ref q), .val (.ref t)] [(.ref kA), (.ref kq)])) _
      refine Jvm.RoadKit.acmp (g := (mkF m 7 #[.val (.ref q), .val (.ref t)] [(.ref kA), (.ref kq)])) X2 hx rfl rfl rfl (pc0 := 7) (pc' := 35) (same := false) rfl (hb hby own_d19_7) rfl (decide_eq_false fun q => hf3 (Value.ref.inj q)) (by decide) (by decide) ?_
      show Steps p.tables e below (T2.setTop (mkF m 35 #[.val (.ref q), .val (.ref t)] [])) _
      refine XS.iconst X2.here hx rfl (hb hby own_d19_35) ?_
      show Steps p.tables e below (T2.setTop (mkF m 36 #[.val (.ref q), .val (.ref t)] [(.int (0 : Int32))])) _
      exact kgo_
  obtain ⟨fs, hr, hrun, hended, hW, hsame⟩ := X3.leave (v := some (.int (nar .boolean rb))) (fun h => by rw [Bd.returns] at h; cases h)
  refine ⟨_, _, pre0 _ ?_, hrun, hended, _, _, rfl, ?_, ⟨_, rfl⟩, hW, hsame.mono (by decide) (by decide)⟩
  · show Steps p.tables e below (s₁.setTop (mkF m 0 #[.val (.ref q), .val (.ref t)] [])) _
    refine XS.aloadN X0.here hx rfl (hb hby own_d19_0) rfl rfl ?_
    show Steps p.tables e below (s₁.setTop (mkF m 1 #[.val (.ref q), .val (.ref t)] [(.ref q)])) _
    refine st1 _ ?_
    show Steps p.tables e below (T1.setTop (mkF m 4 #[.val (.ref q), .val (.ref t)] [(.ref kq)])) _
    refine st2 _ ?_
    refine st3 _ ?_
    show Steps p.tables e below (T3.setTop (mkF m 36 #[.val (.ref q), .val (.ref t)] [(.int rb)])) _
    exact retN X3 hx (t := .boolean) Bd.returns (by simp) (hb hby own_d19_36) hr
  · show own_Q_h3_11 Z q t D cD ich icc kA kS f0 f1 f2 f3 kq kt a ea vs x i a2 ea2 vs2 x2 i2 h0 n0 _ T3.heap _
    rw [e3]
    have en : nar .boolean rb = rb := own_bn hv3
    rw [en]
    exact ⟨rb, rfl, rfl, rfl, hv3⟩
def own_Q_h3_12 (Z : State) (q : Addr) (t : Addr) (D : Addr) (cD : Cell) (ich : Addr) (icc : Cell) (kA : Addr) (kS : Addr) (f0 : Addr) (f1 : Addr) (f2 : Addr) (f3 : Addr) (kq : Addr) (kt : Addr) (a : Addr) (ea : Addr) (vs : Nat → Value) (x : Addr) (i : Int32) (a2 : Addr) (ea2 : Addr) (vs2 : Nat → Value) (x2 : Addr) (i2 : Int32) (h0 : Heap) (n0 : Nat) (vv_ : Option Value) (hh_ : Heap) (LL_ : List Loc) : Prop := ∃ rb : Int32, vv_ = some (.int rb) ∧ LL_ = [] ∧ hh_ = h0 ∧ own_hr kA kS kq kt i i2 rb
set_option maxRecDepth 65536 in
set_option maxHeartbeats 40000000 in
theorem own_h3_12 (l : Launch) (Z : State) (a0 : Array Value) (hw : ∀ d ∈ tables_1, d.before a0 Z = true) (ws : List Jvm.Cond) (q : Addr) (t : Addr) (D : Addr) (cD : Cell) (ich : Addr) (icc : Cell) (kA : Addr) (kS : Addr) (f0 : Addr) (f1 : Addr) (f2 : Addr) (f3 : Addr) (kq : Addr) (kt : Addr) (a : Addr) (ea : Addr) (vs : Nat → Value) (x : Addr) (i : Int32) (a2 : Addr) (ea2 : Addr) (vs2 : Nat → Value) (x2 : Addr) (i2 : Int32) (h0 : Heap) (n0 : Nat) (O0 : Old Z n0 h0) (K : own_W Z D cD ich icc kA kS f0 f1 f2 f3) (pm_E_q : Exa Z h0 q "com/example/witnesseth/witnesseth/HeadingLine") (pm_E_t : Exa Z h0 t "com/example/witnesseth/witnesseth/HeadingLine") (pm_F_q_kind : Fld Z h0 q "com/example/witnesseth/witnesseth/HeadingLine" "kind" "Lcom/example/witnesseth/witnesseth/Heading$Kind;" (.ref kq)) (pm_F_t_kind : Fld Z h0 t "com/example/witnesseth/witnesseth/HeadingLine" "kind" "Lcom/example/witnesseth/witnesseth/Heading$Kind;" (.ref kt)) (pm_F_q_value : Fld Z h0 q "com/example/witnesseth/witnesseth/HeadingLine" "value" "Ljava/util/List;" (.ref a)) (pm_L_a : own_AL Z h0 a ea (1 : Int32) vs) (pm_E_x : Exa Z h0 x "java/lang/Integer") (pm_F_x_value : Fld Z h0 x "java/lang/Integer" "value" "I" (.int i)) (hv0 : vs 0 = .ref x) (pm_F_t_value : Fld Z h0 t "com/example/witnesseth/witnesseth/HeadingLine" "value" "Ljava/util/List;" (.ref a2)) (pm_L_a2 : own_AL Z h0 a2 ea2 (2 : Int32) vs2) (pm_E_x2 : Exa Z h0 x2 "java/lang/Integer") (pm_F_x2_value : Fld Z h0 x2 "java/lang/Integer" "value" "I" (.int i2)) (hv2 : vs2 0 = .ref x2) :
    MetFree l (⟨"com/example/witnesseth/witnesseth/HeadingLine", "holds", "(Lcom/example/witnesseth/witnesseth/HeadingLine;)Z"⟩ : MethodName) (head1 (Jvm.Cond.code (⟨"com/example/witnesseth/witnesseth/HeadingLine", "holds", "(Lcom/example/witnesseth/witnesseth/HeadingLine;)Z"⟩ : MethodName) prog_64_method_13_code 2 (some .boolean) :: ws) ({ frames := 4, cells := 0, slots := 0, locals := 53 } : Room)) (fun aa_ U_ => aa_ = #[(.ref q), (.ref t)] ∧ Z.Warmed39 U_.vm ∧ U_.heap = h0) (fun _ _ _ _ _ => True) (fun _ U_ oo_ UU_ => ∃ vv_ LL_, oo_ = .returned vv_ ∧ own_Q_h3_12 Z q t D cD ich icc kA kS f0 f1 f2 f3 kq kt a ea vs x i a2 ea2 vs2 x2 i2 h0 n0 vv_ UU_.heap LL_ ∧ FrameEnd U_ oo_ UU_ LL_ ({ frames := 4, cells := 0, slots := 0, locals := 53 } : Room).cells ({ frames := 4, cells := 0, slots := 0, locals := 53 } : Room).slots) := by
  have KK := K
  obtain ⟨SD, AD0, zD, SH, SC, AC0, zC, vC, SA, SS, neAS, S0, S1, S2, S3⟩ := KK
  refine MetFree.of_bodySF (plainFor_of_name own_pn8) hisR ?_
  intro p e s m args below meth c s₁ Bd hml0 hP hK
  obtain ⟨rfl, hZ, hh⟩ := hP
  have hx := Bd.exec
  have hby := Bd.bytes
  have hml : c.maxLocals = 2 := hml0
  have hown : s.vm.findClass "com/example/witnesseth/witnesseth/HeadingLine" = some m.cls := findClass_of_methodNamed Bd.named
  have hnm := (name_of_methodNamed Bd.named Bd.method).1
  have X0 : Stand p l e ({ frames := 4, cells := 0, slots := 0, locals := 53 } : Room) s m #[(.ref q), (.ref t)] below meth c s₁ [] 0 0 := Stand.of_body Bd
  have e0 : s₁.heap = h0 := by rw [← hh, Bd.state]; rfl
  have N0 := Fr.nil n0
  have pre0 : ∀ tt_, Steps p.tables e below (s₁.setTop (mkF m 0 #[.val (.ref q), .val (.ref t)] [])) tt_ → Steps p.tables e below (s₁.setTop (entryFrame m #[(.ref q), (.ref t)] 2)) tt_ := fun tt_ kk_ => castTop (own_ef19 m q t) kk_
  obtain ⟨T1, X1, e1, st1⟩ := getF X0 hx hZ hown (host := "") (Or.inl (hw _ (List.mem_of_getElem? (i := 97) rfl))) Via.refl e0 pm_F_q_kind (g := (mkF m 1 #[.val (.ref q), .val (.ref t)] [(.ref q)])) rfl rfl (hb hby own_d19_1)
  obtain ⟨T2, X2, e2, st2⟩ := getS2 X1 hx hZ hown (host := "") (Or.inl (hw _ (List.mem_of_getElem? (i := 151) rfl))) Via.refl e1 (SA.ext O0.2) (g := (mkF m 4 #[.val (.ref q), .val (.ref t)] [(.ref kq)])) rfl (hb hby own_d19_4)
  obtain ⟨T3, rb, hv3, ⟨X3, e3⟩, st3⟩ : ∃ (T' : State) (rb : Int32), ((kq = kA ∧ ((kt = kS ∧ ((i2 = i ∧ rb = (1 : Int32)) ∨ (¬ (i2 = i) ∧ rb = (0 : Int32)))) ∨ (¬ (kt = kS) ∧ rb = (0 : Int32)))) ∨ (¬ (kq = kA) ∧ rb = (0 : Int32))) ∧ own_Go X2 h0 T' ∧ ∀ target, Steps p.tables e below (T'.setTop (mkF m 36 #[.val (.ref q), .val (.ref t)] [(.int rb)])) target → Steps p.tables e below (T2.setTop (mkF m 7 #[.val (.ref q), .val (.ref t)] [(.ref kA), (.ref kq)])) target := by
    by_cases hf3 : kq = kA
    · obtain ⟨T4, X4, e4, st4⟩ := getF X2 hx hZ hown (host := "") (Or.inl (hw _ (List.mem_of_getElem? (i := 97) rfl))) Via.refl e2 pm_F_t_kind (g := (mkF m 11 #[.val (.ref q), .val (.ref t)] [(.ref t)])) rfl rfl (hb hby own_d19_11)
      obtain ⟨T5, X5, e5, st5⟩ := getS2 X4 hx hZ hown (host := "") (Or.inl (hw _ (List.mem_of_getElem? (i := 152) rfl))) Via.refl e4 (SS.ext O0.2) (g := (mkF m 14 #[.val (.ref q), .val (.ref t)] [(.ref kt)])) rfl (hb hby own_d19_14)
      obtain ⟨T6, w6_0, hv6, ⟨X6, e6⟩, st6⟩ : ∃ (T' : State) (w6_0 : Int32), ((kt = kS ∧ ((i2 = i ∧ w6_0 = (1 : Int32)) ∨ (¬ (i2 = i) ∧ w6_0 = (0 : Int32)))) ∨ (¬ (kt = kS) ∧ w6_0 = (0 : Int32))) ∧ own_Go X5 h0 T' ∧ ∀ target, Steps p.tables e below (T'.setTop (mkF m 36 #[.val (.ref q), .val (.ref t)] [(.int w6_0)])) target → Steps p.tables e below (T5.setTop (mkF m 17 #[.val (.ref q), .val (.ref t)] [(.ref kS), (.ref kt)])) target := by
        by_cases hf6 : kt = kS
        · obtain ⟨cq7, kq7, q7a, q7b, q7c⟩ := isOf hZ e5 pm_E_t
          obtain ⟨_, _, ⟨T7, L7, k7, n7⟩, -, X7, ⟨Lc7, hQ7, l7, y7, z7⟩, st7⟩ := X5.virtualBack hx (y := (⟨"com/example/witnesseth/witnesseth/HeadingLine", "article", "()I"⟩ : MethodName)) (z := (⟨"com/example/witnesseth/witnesseth/HeadingLine", "article", "()I"⟩ : MethodName)) hown (mvT hZ (hw _ (List.mem_of_getElem? (i := 167) rfl))) (mvT hZ (hw _ (List.mem_of_getElem? (i := 112) rfl))) (notFace_of_selects (args := #[]) (mvT hZ (hw _ (List.mem_of_getElem? (i := 114) rfl)))) (mvT hZ (hw _ (List.mem_of_getElem? (i := 114) rfl))) (mvT hZ (hw _ (List.mem_of_getElem? (i := 113) rfl))) (by decide) (backOf (W := 0) (own_art2 l Z a0 hw [] t a2 ea2 vs2 x2 i2 h0 n0 O0  pm_F_t_value pm_L_a2 pm_E_x2 pm_F_x2_value hv2) hZ (hw _ (List.mem_of_getElem? (i := 115) rfl)) (hw _ (List.mem_of_getElem? (i := 76) rfl)) (by decide) (by decide)) q7a q7c (g := (mkF m 21 #[.val (.ref q), .val (.ref t)] [(.ref t)])) rfl (by rw [hml]; rfl) (Steps.refl _) (argsL := []) (rest := []) (lenOf own_pd8 rfl) rfl (by show 2 * 0 + _ ≤ _; exact Nat.le_of_eq rfl) (hb hby own_d19_21) (fun _ _ => ⟨rfl, e5, (by decide : 0 + 0 ≤ _), (by decide : 0 + 0 ≤ _)⟩)
          dsimp only [Pt.U, Pt.locs, Pt.cells, Pt.slots] at X7 l7 y7 z7 st7 hQ7
          subst l7 y7 z7
          obtain ⟨rfl, rfl, e7⟩ := hQ7
          try rw [List.append_nil] at X7
          obtain ⟨cq8, kq8, q8a, q8b, q8c⟩ := isOf hZ e7 pm_E_q
          obtain ⟨_, _, ⟨T8, L8, k8, n8⟩, -, X8, ⟨Lc8, hQ8, l8, y8, z8⟩, st8⟩ := X7.virtualBack hx (y := (⟨"com/example/witnesseth/witnesseth/HeadingLine", "article", "()I"⟩ : MethodName)) (z := (⟨"com/example/witnesseth/witnesseth/HeadingLine", "article", "()I"⟩ : MethodName)) hown (mvT hZ (hw _ (List.mem_of_getElem? (i := 167) rfl))) (mvT hZ (hw _ (List.mem_of_getElem? (i := 112) rfl))) (notFace_of_selects (args := #[]) (mvT hZ (hw _ (List.mem_of_getElem? (i := 114) rfl)))) (mvT hZ (hw _ (List.mem_of_getElem? (i := 114) rfl))) (mvT hZ (hw _ (List.mem_of_getElem? (i := 113) rfl))) (by decide) (backOf (W := 1) (own_art1 l Z a0 hw [] q a ea vs x i h0 n0 O0  pm_F_q_value pm_L_a pm_E_x pm_F_x_value hv0) hZ (hw _ (List.mem_of_getElem? (i := 115) rfl)) (hw _ (List.mem_of_getElem? (i := 76) rfl)) (by decide) (by decide)) q8a q8c (g := (mkF m 25 #[.val (.ref q), .val (.ref t)] [(.ref q), (.int i2)])) rfl (by rw [hml]; rfl) (Steps.refl _) (argsL := []) (rest := [(.int i2)]) (lenOf own_pd8 rfl) rfl (by show 2 * 0 + _ ≤ _; exact Nat.le_of_eq rfl) (hb hby own_d19_25) (fun _ _ => ⟨rfl, e7, (by decide : 0 + 0 ≤ _), (by decide : 0 + 0 ≤ _)⟩)
          dsimp only [Pt.U, Pt.locs, Pt.cells, Pt.slots] at X8 l8 y8 z8 st8 hQ8
          subst l8 y8 z8
          obtain ⟨rfl, rfl, e8⟩ := hQ8
          try rw [List.append_nil] at X8
          obtain ⟨T9, w9_0, hv9, ⟨X9, e9⟩, st9⟩ : ∃ (T' : State) (w9_0 : Int32), ((i2 = i ∧ w9_0 = (1 : Int32)) ∨ (¬ (i2 = i) ∧ w9_0 = (0 : Int32))) ∧ own_Go X8 h0 T' ∧ ∀ target, Steps p.tables e below (T'.setTop (mkF m 36 #[.val (.ref q), .val (.ref t)] [(.int w9_0)])) target → Steps p.tables e below (T8.setTop (mkF m 28 #[.val (.ref q), .val (.ref t)] [(.int i), (.int i2)])) target := by
            by_cases hf9 : i2 = i
            · refine ⟨T8, (1 : Int32), Or.inl ⟨hf9, rfl⟩, ⟨X8, e8⟩, fun target kgo_ => ?_⟩
              show Steps p.tables e below (T8.setTop (mkF m 28 #[.val (.ref q), .val (.ref t)] [(.int i), (.int i2)])) _
              refine XS.icmpNo X8.here hx rfl (hb hby own_d19_28) rfl (teq hf9).2 ?_
              show Steps p.tables e below (T8.setTop (mkF m 31 #[.val (.ref q), .val (.ref t)] [])) _
              refine XS.iconst X8.here hx rfl (hb hby own_d19_31) ?_
              show Steps p.tables e below (T8.setTop (mkF m 32 #[.val (.ref q), .val (.ref t)] [(.int (1 : Int32))])) _
              refine XS.goto X8.here hx rfl (pc0 := 32) (pc' := 36) rfl (hb hby own_d19_32) (by decide) (by decide) ?_
              show Steps p.tables e below (T8.setTop (mkF m 36 #[.val (.ref q), .val (.ref t)] [(.int (1 : Int32))])) _
              exact kgo_
            · refine ⟨T8, (0 : Int32), Or.inr ⟨hf9, rfl⟩, ⟨X8, e8⟩, fun target kgo_ => ?_⟩
              show Steps p.tables e below (T8.setTop (mkF m 28 #[.val (.ref q), .val (.ref t)] [(.int i), (.int i2)])) _
              refine XS.icmpYes X8.here hx rfl (pc0 := 28) (pc' := 35) rfl (hb hby own_d19_28) rfl (feq hf9).2 (by decide) (by decide) ?_
              show Steps p.tables e below (T8.setTop (mkF m 35 #[.val (.ref q), .val (.ref t)] [])) _
              refine XS.iconst X8.here hx rfl (hb hby own_d19_35) ?_
              show Steps p.tables e below (T8.setTop (mkF m 36 #[.val (.ref q), .val (.ref t)] [(.int (0 : Int32))])) _
              exact kgo_
          refine ⟨T9, w9_0, Or.inl ⟨hf6, hv9⟩, ⟨X9, e9⟩, fun target kgo_ => ?_⟩
          show Steps p.tables e below (T5.setTop (mkF m 17 #[.val (.ref q), .val (.ref t)] [(.ref kS), (.ref kt)])) _
          refine Jvm.RoadKit.acmp (g := (mkF m 17 #[.val (.ref q), .val (.ref t)] [(.ref kS), (.ref kt)])) X5 hx rfl rfl rfl (pc0 := 17) (pc' := 20) (same := true) rfl (hb hby own_d19_17) rfl (decide_eq_true (congrArg Value.ref hf6)) (by decide) (by decide) ?_
          show Steps p.tables e below (T5.setTop (mkF m 20 #[.val (.ref q), .val (.ref t)] [])) _
          refine XS.aloadN X5.here hx rfl (hb hby own_d19_20) rfl rfl ?_
          show Steps p.tables e below (T5.setTop (mkF m 21 #[.val (.ref q), .val (.ref t)] [(.ref t)])) _
          refine st7.trans ?_
          show Steps p.tables e below (T7.setTop (mkF m 24 #[.val (.ref q), .val (.ref t)] [(.int i2)])) _
          refine XS.aloadN X7.here hx rfl (hb hby own_d19_24) rfl rfl ?_
          show Steps p.tables e below (T7.setTop (mkF m 25 #[.val (.ref q), .val (.ref t)] [(.ref q), (.int i2)])) _
          refine st8.trans ?_
          refine st9 _ ?_
          show Steps p.tables e below (T9.setTop (mkF m 36 #[.val (.ref q), .val (.ref t)] [(.int w9_0)])) _
          exact kgo_
        · refine ⟨T5, (0 : Int32), Or.inr ⟨hf6, rfl⟩, ⟨X5, e5⟩, fun target kgo_ => ?_⟩
          show Steps p.tables e below (T5.setTop (mkF m 17 #[.val (.ref q), .val (.ref t)] [(.ref kS), (.ref kt)])) _
          refine Jvm.RoadKit.acmp (g := (mkF m 17 #[.val (.ref q), .val (.ref t)] [(.ref kS), (.ref kt)])) X5 hx rfl rfl rfl (pc0 := 17) (pc' := 35) (same := false) rfl (hb hby own_d19_17) rfl (decide_eq_false fun q => hf6 (Value.ref.inj q)) (by decide) (by decide) ?_
          show Steps p.tables e below (T5.setTop (mkF m 35 #[.val (.ref q), .val (.ref t)] [])) _
          refine XS.iconst X5.here hx rfl (hb hby own_d19_35) ?_
          show Steps p.tables e below (T5.setTop (mkF m 36 #[.val (.ref q), .val (.ref t)] [(.int (0 : Int32))])) _
          exact kgo_
      refine ⟨T6, w6_0, Or.inl ⟨hf3, hv6⟩, ⟨X6, e6⟩, fun target kgo_ => ?_⟩
      show Steps p.tables e below (T2.setTop (mkF m 7 #[.val (.ref q), .val (.ref t)] [(.ref kA), (.ref kq)])) _
      refine Jvm.RoadKit.acmp (g := (mkF m 7 #[.val (.ref q), .val (.ref t)] [(.ref kA), (.ref kq)])) X2 hx rfl rfl rfl (pc0 := 7) (pc' := 10) (same := true) rfl (hb hby own_d19_7) rfl (decide_eq_true (congrArg Value.ref hf3)) (by decide) (by decide) ?_
      show Steps p.tables e below (T2.setTop (mkF m 10 #[.val (.ref q), .val (.ref t)] [])) _
      refine XS.aloadN X2.here hx rfl (hb hby own_d19_10) rfl rfl ?_
      show Steps p.tables e below (T2.setTop (mkF m 11 #[.val (.ref q), .val (.ref t)] [(.ref t)])) _
      refine st4 _ ?_
      show Steps p.tables e below (T4.setTop (mkF m 14 #[.val (.ref q), .val (.ref t)] [(.ref kt)])) _
      refine st5 _ ?_
      refine st6 _ ?_
      show Steps p.tables e below (T6.setTop (mkF m 36 #[.val (.ref q), .val (.ref t)] [(.int w6_0)])) _
      exact kgo_
    · refine ⟨T2, (0 : Int32), Or.inr ⟨hf3, rfl⟩, ⟨X2, e2⟩, fun target kgo_ => ?_⟩
      show Steps p.tables e below (T2.setTop (mkF m 7 #[.val (.ref q), .val (.ref t)] [(.ref kA), (.ref kq)])) _
      refine Jvm.RoadKit.acmp (g := (mkF m 7 #[.val (.ref q), .val (.ref t)] [(.ref kA), (.ref kq)])) X2 hx rfl rfl rfl (pc0 := 7) (pc' := 35) (same := false) rfl (hb hby own_d19_7) rfl (decide_eq_false fun q => hf3 (Value.ref.inj q)) (by decide) (by decide) ?_
      show Steps p.tables e below (T2.setTop (mkF m 35 #[.val (.ref q), .val (.ref t)] [])) _
      refine XS.iconst X2.here hx rfl (hb hby own_d19_35) ?_
      show Steps p.tables e below (T2.setTop (mkF m 36 #[.val (.ref q), .val (.ref t)] [(.int (0 : Int32))])) _
      exact kgo_
  obtain ⟨fs, hr, hrun, hended, hW, hsame⟩ := X3.leave (v := some (.int (nar .boolean rb))) (fun h => by rw [Bd.returns] at h; cases h)
  refine ⟨_, _, pre0 _ ?_, hrun, hended, _, _, rfl, ?_, ⟨_, rfl⟩, hW, hsame.mono (by decide) (by decide)⟩
  · show Steps p.tables e below (s₁.setTop (mkF m 0 #[.val (.ref q), .val (.ref t)] [])) _
    refine XS.aloadN X0.here hx rfl (hb hby own_d19_0) rfl rfl ?_
    show Steps p.tables e below (s₁.setTop (mkF m 1 #[.val (.ref q), .val (.ref t)] [(.ref q)])) _
    refine st1 _ ?_
    show Steps p.tables e below (T1.setTop (mkF m 4 #[.val (.ref q), .val (.ref t)] [(.ref kq)])) _
    refine st2 _ ?_
    refine st3 _ ?_
    show Steps p.tables e below (T3.setTop (mkF m 36 #[.val (.ref q), .val (.ref t)] [(.int rb)])) _
    exact retN X3 hx (t := .boolean) Bd.returns (by simp) (hb hby own_d19_36) hr
  · show own_Q_h3_12 Z q t D cD ich icc kA kS f0 f1 f2 f3 kq kt a ea vs x i a2 ea2 vs2 x2 i2 h0 n0 _ T3.heap _
    rw [e3]
    have en : nar .boolean rb = rb := own_bn hv3
    rw [en]
    exact ⟨rb, rfl, rfl, rfl, hv3⟩
def own_Q_h3_13 (Z : State) (q : Addr) (t : Addr) (D : Addr) (cD : Cell) (ich : Addr) (icc : Cell) (kA : Addr) (kS : Addr) (f0 : Addr) (f1 : Addr) (f2 : Addr) (f3 : Addr) (kq : Addr) (kt : Addr) (a : Addr) (ea : Addr) (vs : Nat → Value) (x : Addr) (i : Int32) (a2 : Addr) (ea2 : Addr) (vs2 : Nat → Value) (x2 : Addr) (i2 : Int32) (h0 : Heap) (n0 : Nat) (vv_ : Option Value) (hh_ : Heap) (LL_ : List Loc) : Prop := ∃ rb : Int32, vv_ = some (.int rb) ∧ LL_ = [] ∧ hh_ = h0 ∧ own_hr kA kS kq kt i i2 rb
set_option maxRecDepth 65536 in
set_option maxHeartbeats 40000000 in
theorem own_h3_13 (l : Launch) (Z : State) (a0 : Array Value) (hw : ∀ d ∈ tables_1, d.before a0 Z = true) (ws : List Jvm.Cond) (q : Addr) (t : Addr) (D : Addr) (cD : Cell) (ich : Addr) (icc : Cell) (kA : Addr) (kS : Addr) (f0 : Addr) (f1 : Addr) (f2 : Addr) (f3 : Addr) (kq : Addr) (kt : Addr) (a : Addr) (ea : Addr) (vs : Nat → Value) (x : Addr) (i : Int32) (a2 : Addr) (ea2 : Addr) (vs2 : Nat → Value) (x2 : Addr) (i2 : Int32) (h0 : Heap) (n0 : Nat) (O0 : Old Z n0 h0) (K : own_W Z D cD ich icc kA kS f0 f1 f2 f3) (pm_E_q : Exa Z h0 q "com/example/witnesseth/witnesseth/HeadingLine") (pm_E_t : Exa Z h0 t "com/example/witnesseth/witnesseth/HeadingLine") (pm_F_q_kind : Fld Z h0 q "com/example/witnesseth/witnesseth/HeadingLine" "kind" "Lcom/example/witnesseth/witnesseth/Heading$Kind;" (.ref kq)) (pm_F_t_kind : Fld Z h0 t "com/example/witnesseth/witnesseth/HeadingLine" "kind" "Lcom/example/witnesseth/witnesseth/Heading$Kind;" (.ref kt)) (pm_F_q_value : Fld Z h0 q "com/example/witnesseth/witnesseth/HeadingLine" "value" "Ljava/util/List;" (.ref a)) (pm_L_a : own_AL Z h0 a ea (1 : Int32) vs) (pm_E_x : Exa Z h0 x "java/lang/Integer") (pm_F_x_value : Fld Z h0 x "java/lang/Integer" "value" "I" (.int i)) (hv0 : vs 0 = .ref x) (pm_F_t_value : Fld Z h0 t "com/example/witnesseth/witnesseth/HeadingLine" "value" "Ljava/util/List;" (.ref a2)) (pm_L_a2 : own_AL Z h0 a2 ea2 (3 : Int32) vs2) (pm_E_x2 : Exa Z h0 x2 "java/lang/Integer") (pm_F_x2_value : Fld Z h0 x2 "java/lang/Integer" "value" "I" (.int i2)) (hv2 : vs2 0 = .ref x2) :
    MetFree l (⟨"com/example/witnesseth/witnesseth/HeadingLine", "holds", "(Lcom/example/witnesseth/witnesseth/HeadingLine;)Z"⟩ : MethodName) (head1 (Jvm.Cond.code (⟨"com/example/witnesseth/witnesseth/HeadingLine", "holds", "(Lcom/example/witnesseth/witnesseth/HeadingLine;)Z"⟩ : MethodName) prog_64_method_13_code 2 (some .boolean) :: ws) ({ frames := 4, cells := 0, slots := 0, locals := 53 } : Room)) (fun aa_ U_ => aa_ = #[(.ref q), (.ref t)] ∧ Z.Warmed39 U_.vm ∧ U_.heap = h0) (fun _ _ _ _ _ => True) (fun _ U_ oo_ UU_ => ∃ vv_ LL_, oo_ = .returned vv_ ∧ own_Q_h3_13 Z q t D cD ich icc kA kS f0 f1 f2 f3 kq kt a ea vs x i a2 ea2 vs2 x2 i2 h0 n0 vv_ UU_.heap LL_ ∧ FrameEnd U_ oo_ UU_ LL_ ({ frames := 4, cells := 0, slots := 0, locals := 53 } : Room).cells ({ frames := 4, cells := 0, slots := 0, locals := 53 } : Room).slots) := by
  have KK := K
  obtain ⟨SD, AD0, zD, SH, SC, AC0, zC, vC, SA, SS, neAS, S0, S1, S2, S3⟩ := KK
  refine MetFree.of_bodySF (plainFor_of_name own_pn8) hisR ?_
  intro p e s m args below meth c s₁ Bd hml0 hP hK
  obtain ⟨rfl, hZ, hh⟩ := hP
  have hx := Bd.exec
  have hby := Bd.bytes
  have hml : c.maxLocals = 2 := hml0
  have hown : s.vm.findClass "com/example/witnesseth/witnesseth/HeadingLine" = some m.cls := findClass_of_methodNamed Bd.named
  have hnm := (name_of_methodNamed Bd.named Bd.method).1
  have X0 : Stand p l e ({ frames := 4, cells := 0, slots := 0, locals := 53 } : Room) s m #[(.ref q), (.ref t)] below meth c s₁ [] 0 0 := Stand.of_body Bd
  have e0 : s₁.heap = h0 := by rw [← hh, Bd.state]; rfl
  have N0 := Fr.nil n0
  have pre0 : ∀ tt_, Steps p.tables e below (s₁.setTop (mkF m 0 #[.val (.ref q), .val (.ref t)] [])) tt_ → Steps p.tables e below (s₁.setTop (entryFrame m #[(.ref q), (.ref t)] 2)) tt_ := fun tt_ kk_ => castTop (own_ef19 m q t) kk_
  obtain ⟨T1, X1, e1, st1⟩ := getF X0 hx hZ hown (host := "") (Or.inl (hw _ (List.mem_of_getElem? (i := 97) rfl))) Via.refl e0 pm_F_q_kind (g := (mkF m 1 #[.val (.ref q), .val (.ref t)] [(.ref q)])) rfl rfl (hb hby own_d19_1)
  obtain ⟨T2, X2, e2, st2⟩ := getS2 X1 hx hZ hown (host := "") (Or.inl (hw _ (List.mem_of_getElem? (i := 151) rfl))) Via.refl e1 (SA.ext O0.2) (g := (mkF m 4 #[.val (.ref q), .val (.ref t)] [(.ref kq)])) rfl (hb hby own_d19_4)
  obtain ⟨T3, rb, hv3, ⟨X3, e3⟩, st3⟩ : ∃ (T' : State) (rb : Int32), ((kq = kA ∧ ((kt = kS ∧ ((i2 = i ∧ rb = (1 : Int32)) ∨ (¬ (i2 = i) ∧ rb = (0 : Int32)))) ∨ (¬ (kt = kS) ∧ rb = (0 : Int32)))) ∨ (¬ (kq = kA) ∧ rb = (0 : Int32))) ∧ own_Go X2 h0 T' ∧ ∀ target, Steps p.tables e below (T'.setTop (mkF m 36 #[.val (.ref q), .val (.ref t)] [(.int rb)])) target → Steps p.tables e below (T2.setTop (mkF m 7 #[.val (.ref q), .val (.ref t)] [(.ref kA), (.ref kq)])) target := by
    by_cases hf3 : kq = kA
    · obtain ⟨T4, X4, e4, st4⟩ := getF X2 hx hZ hown (host := "") (Or.inl (hw _ (List.mem_of_getElem? (i := 97) rfl))) Via.refl e2 pm_F_t_kind (g := (mkF m 11 #[.val (.ref q), .val (.ref t)] [(.ref t)])) rfl rfl (hb hby own_d19_11)
      obtain ⟨T5, X5, e5, st5⟩ := getS2 X4 hx hZ hown (host := "") (Or.inl (hw _ (List.mem_of_getElem? (i := 152) rfl))) Via.refl e4 (SS.ext O0.2) (g := (mkF m 14 #[.val (.ref q), .val (.ref t)] [(.ref kt)])) rfl (hb hby own_d19_14)
      obtain ⟨T6, w6_0, hv6, ⟨X6, e6⟩, st6⟩ : ∃ (T' : State) (w6_0 : Int32), ((kt = kS ∧ ((i2 = i ∧ w6_0 = (1 : Int32)) ∨ (¬ (i2 = i) ∧ w6_0 = (0 : Int32)))) ∨ (¬ (kt = kS) ∧ w6_0 = (0 : Int32))) ∧ own_Go X5 h0 T' ∧ ∀ target, Steps p.tables e below (T'.setTop (mkF m 36 #[.val (.ref q), .val (.ref t)] [(.int w6_0)])) target → Steps p.tables e below (T5.setTop (mkF m 17 #[.val (.ref q), .val (.ref t)] [(.ref kS), (.ref kt)])) target := by
        by_cases hf6 : kt = kS
        · obtain ⟨cq7, kq7, q7a, q7b, q7c⟩ := isOf hZ e5 pm_E_t
          obtain ⟨_, _, ⟨T7, L7, k7, n7⟩, -, X7, ⟨Lc7, hQ7, l7, y7, z7⟩, st7⟩ := X5.virtualBack hx (y := (⟨"com/example/witnesseth/witnesseth/HeadingLine", "article", "()I"⟩ : MethodName)) (z := (⟨"com/example/witnesseth/witnesseth/HeadingLine", "article", "()I"⟩ : MethodName)) hown (mvT hZ (hw _ (List.mem_of_getElem? (i := 167) rfl))) (mvT hZ (hw _ (List.mem_of_getElem? (i := 112) rfl))) (notFace_of_selects (args := #[]) (mvT hZ (hw _ (List.mem_of_getElem? (i := 114) rfl)))) (mvT hZ (hw _ (List.mem_of_getElem? (i := 114) rfl))) (mvT hZ (hw _ (List.mem_of_getElem? (i := 113) rfl))) (by decide) (backOf (W := 0) (own_art3 l Z a0 hw [] t a2 ea2 vs2 x2 i2 h0 n0 O0  pm_F_t_value pm_L_a2 pm_E_x2 pm_F_x2_value hv2) hZ (hw _ (List.mem_of_getElem? (i := 115) rfl)) (hw _ (List.mem_of_getElem? (i := 76) rfl)) (by decide) (by decide)) q7a q7c (g := (mkF m 21 #[.val (.ref q), .val (.ref t)] [(.ref t)])) rfl (by rw [hml]; rfl) (Steps.refl _) (argsL := []) (rest := []) (lenOf own_pd8 rfl) rfl (by show 2 * 0 + _ ≤ _; exact Nat.le_of_eq rfl) (hb hby own_d19_21) (fun _ _ => ⟨rfl, e5, (by decide : 0 + 0 ≤ _), (by decide : 0 + 0 ≤ _)⟩)
          dsimp only [Pt.U, Pt.locs, Pt.cells, Pt.slots] at X7 l7 y7 z7 st7 hQ7
          subst l7 y7 z7
          obtain ⟨rfl, rfl, e7⟩ := hQ7
          try rw [List.append_nil] at X7
          obtain ⟨cq8, kq8, q8a, q8b, q8c⟩ := isOf hZ e7 pm_E_q
          obtain ⟨_, _, ⟨T8, L8, k8, n8⟩, -, X8, ⟨Lc8, hQ8, l8, y8, z8⟩, st8⟩ := X7.virtualBack hx (y := (⟨"com/example/witnesseth/witnesseth/HeadingLine", "article", "()I"⟩ : MethodName)) (z := (⟨"com/example/witnesseth/witnesseth/HeadingLine", "article", "()I"⟩ : MethodName)) hown (mvT hZ (hw _ (List.mem_of_getElem? (i := 167) rfl))) (mvT hZ (hw _ (List.mem_of_getElem? (i := 112) rfl))) (notFace_of_selects (args := #[]) (mvT hZ (hw _ (List.mem_of_getElem? (i := 114) rfl)))) (mvT hZ (hw _ (List.mem_of_getElem? (i := 114) rfl))) (mvT hZ (hw _ (List.mem_of_getElem? (i := 113) rfl))) (by decide) (backOf (W := 1) (own_art1 l Z a0 hw [] q a ea vs x i h0 n0 O0  pm_F_q_value pm_L_a pm_E_x pm_F_x_value hv0) hZ (hw _ (List.mem_of_getElem? (i := 115) rfl)) (hw _ (List.mem_of_getElem? (i := 76) rfl)) (by decide) (by decide)) q8a q8c (g := (mkF m 25 #[.val (.ref q), .val (.ref t)] [(.ref q), (.int i2)])) rfl (by rw [hml]; rfl) (Steps.refl _) (argsL := []) (rest := [(.int i2)]) (lenOf own_pd8 rfl) rfl (by show 2 * 0 + _ ≤ _; exact Nat.le_of_eq rfl) (hb hby own_d19_25) (fun _ _ => ⟨rfl, e7, (by decide : 0 + 0 ≤ _), (by decide : 0 + 0 ≤ _)⟩)
          dsimp only [Pt.U, Pt.locs, Pt.cells, Pt.slots] at X8 l8 y8 z8 st8 hQ8
          subst l8 y8 z8
          obtain ⟨rfl, rfl, e8⟩ := hQ8
          try rw [List.append_nil] at X8
          obtain ⟨T9, w9_0, hv9, ⟨X9, e9⟩, st9⟩ : ∃ (T' : State) (w9_0 : Int32), ((i2 = i ∧ w9_0 = (1 : Int32)) ∨ (¬ (i2 = i) ∧ w9_0 = (0 : Int32))) ∧ own_Go X8 h0 T' ∧ ∀ target, Steps p.tables e below (T'.setTop (mkF m 36 #[.val (.ref q), .val (.ref t)] [(.int w9_0)])) target → Steps p.tables e below (T8.setTop (mkF m 28 #[.val (.ref q), .val (.ref t)] [(.int i), (.int i2)])) target := by
            by_cases hf9 : i2 = i
            · refine ⟨T8, (1 : Int32), Or.inl ⟨hf9, rfl⟩, ⟨X8, e8⟩, fun target kgo_ => ?_⟩
              show Steps p.tables e below (T8.setTop (mkF m 28 #[.val (.ref q), .val (.ref t)] [(.int i), (.int i2)])) _
              refine XS.icmpNo X8.here hx rfl (hb hby own_d19_28) rfl (teq hf9).2 ?_
              show Steps p.tables e below (T8.setTop (mkF m 31 #[.val (.ref q), .val (.ref t)] [])) _
              refine XS.iconst X8.here hx rfl (hb hby own_d19_31) ?_
              show Steps p.tables e below (T8.setTop (mkF m 32 #[.val (.ref q), .val (.ref t)] [(.int (1 : Int32))])) _
              refine XS.goto X8.here hx rfl (pc0 := 32) (pc' := 36) rfl (hb hby own_d19_32) (by decide) (by decide) ?_
              show Steps p.tables e below (T8.setTop (mkF m 36 #[.val (.ref q), .val (.ref t)] [(.int (1 : Int32))])) _
              exact kgo_
            · refine ⟨T8, (0 : Int32), Or.inr ⟨hf9, rfl⟩, ⟨X8, e8⟩, fun target kgo_ => ?_⟩
              show Steps p.tables e below (T8.setTop (mkF m 28 #[.val (.ref q), .val (.ref t)] [(.int i), (.int i2)])) _
              refine XS.icmpYes X8.here hx rfl (pc0 := 28) (pc' := 35) rfl (hb hby own_d19_28) rfl (feq hf9).2 (by decide) (by decide) ?_
              show Steps p.tables e below (T8.setTop (mkF m 35 #[.val (.ref q), .val (.ref t)] [])) _
              refine XS.iconst X8.here hx rfl (hb hby own_d19_35) ?_
              show Steps p.tables e below (T8.setTop (mkF m 36 #[.val (.ref q), .val (.ref t)] [(.int (0 : Int32))])) _
              exact kgo_
          refine ⟨T9, w9_0, Or.inl ⟨hf6, hv9⟩, ⟨X9, e9⟩, fun target kgo_ => ?_⟩
          show Steps p.tables e below (T5.setTop (mkF m 17 #[.val (.ref q), .val (.ref t)] [(.ref kS), (.ref kt)])) _
          refine Jvm.RoadKit.acmp (g := (mkF m 17 #[.val (.ref q), .val (.ref t)] [(.ref kS), (.ref kt)])) X5 hx rfl rfl rfl (pc0 := 17) (pc' := 20) (same := true) rfl (hb hby own_d19_17) rfl (decide_eq_true (congrArg Value.ref hf6)) (by decide) (by decide) ?_
          show Steps p.tables e below (T5.setTop (mkF m 20 #[.val (.ref q), .val (.ref t)] [])) _
          refine XS.aloadN X5.here hx rfl (hb hby own_d19_20) rfl rfl ?_
          show Steps p.tables e below (T5.setTop (mkF m 21 #[.val (.ref q), .val (.ref t)] [(.ref t)])) _
          refine st7.trans ?_
          show Steps p.tables e below (T7.setTop (mkF m 24 #[.val (.ref q), .val (.ref t)] [(.int i2)])) _
          refine XS.aloadN X7.here hx rfl (hb hby own_d19_24) rfl rfl ?_
          show Steps p.tables e below (T7.setTop (mkF m 25 #[.val (.ref q), .val (.ref t)] [(.ref q), (.int i2)])) _
          refine st8.trans ?_
          refine st9 _ ?_
          show Steps p.tables e below (T9.setTop (mkF m 36 #[.val (.ref q), .val (.ref t)] [(.int w9_0)])) _
          exact kgo_
        · refine ⟨T5, (0 : Int32), Or.inr ⟨hf6, rfl⟩, ⟨X5, e5⟩, fun target kgo_ => ?_⟩
          show Steps p.tables e below (T5.setTop (mkF m 17 #[.val (.ref q), .val (.ref t)] [(.ref kS), (.ref kt)])) _
          refine Jvm.RoadKit.acmp (g := (mkF m 17 #[.val (.ref q), .val (.ref t)] [(.ref kS), (.ref kt)])) X5 hx rfl rfl rfl (pc0 := 17) (pc' := 35) (same := false) rfl (hb hby own_d19_17) rfl (decide_eq_false fun q => hf6 (Value.ref.inj q)) (by decide) (by decide) ?_
          show Steps p.tables e below (T5.setTop (mkF m 35 #[.val (.ref q), .val (.ref t)] [])) _
          refine XS.iconst X5.here hx rfl (hb hby own_d19_35) ?_
          show Steps p.tables e below (T5.setTop (mkF m 36 #[.val (.ref q), .val (.ref t)] [(.int (0 : Int32))])) _
          exact kgo_
      refine ⟨T6, w6_0, Or.inl ⟨hf3, hv6⟩, ⟨X6, e6⟩, fun target kgo_ => ?_⟩
      show Steps p.tables e below (T2.setTop (mkF m 7 #[.val (.ref q), .val (.ref t)] [(.ref kA), (.ref kq)])) _
      refine Jvm.RoadKit.acmp (g := (mkF m 7 #[.val (.ref q), .val (.ref t)] [(.ref kA), (.ref kq)])) X2 hx rfl rfl rfl (pc0 := 7) (pc' := 10) (same := true) rfl (hb hby own_d19_7) rfl (decide_eq_true (congrArg Value.ref hf3)) (by decide) (by decide) ?_
      show Steps p.tables e below (T2.setTop (mkF m 10 #[.val (.ref q), .val (.ref t)] [])) _
      refine XS.aloadN X2.here hx rfl (hb hby own_d19_10) rfl rfl ?_
      show Steps p.tables e below (T2.setTop (mkF m 11 #[.val (.ref q), .val (.ref t)] [(.ref t)])) _
      refine st4 _ ?_
      show Steps p.tables e below (T4.setTop (mkF m 14 #[.val (.ref q), .val (.ref t)] [(.ref kt)])) _
      refine st5 _ ?_
      refine st6 _ ?_
      show Steps p.tables e below (T6.setTop (mkF m 36 #[.val (.ref q), .val (.ref t)] [(.int w6_0)])) _
      exact kgo_
    · refine ⟨T2, (0 : Int32), Or.inr ⟨hf3, rfl⟩, ⟨X2, e2⟩, fun target kgo_ => ?_⟩
      show Steps p.tables e below (T2.setTop (mkF m 7 #[.val (.ref q), .val (.ref t)] [(.ref kA), (.ref kq)])) _
      refine Jvm.RoadKit.acmp (g := (mkF m 7 #[.val (.ref q), .val (.ref t)] [(.ref kA), (.ref kq)])) X2 hx rfl rfl rfl (pc0 := 7) (pc' := 35) (same := false) rfl (hb hby own_d19_7) rfl (decide_eq_false fun q => hf3 (Value.ref.inj q)) (by decide) (by decide) ?_
      show Steps p.tables e below (T2.setTop (mkF m 35 #[.val (.ref q), .val (.ref t)] [])) _
      refine XS.iconst X2.here hx rfl (hb hby own_d19_35) ?_
      show Steps p.tables e below (T2.setTop (mkF m 36 #[.val (.ref q), .val (.ref t)] [(.int (0 : Int32))])) _
      exact kgo_
  obtain ⟨fs, hr, hrun, hended, hW, hsame⟩ := X3.leave (v := some (.int (nar .boolean rb))) (fun h => by rw [Bd.returns] at h; cases h)
  refine ⟨_, _, pre0 _ ?_, hrun, hended, _, _, rfl, ?_, ⟨_, rfl⟩, hW, hsame.mono (by decide) (by decide)⟩
  · show Steps p.tables e below (s₁.setTop (mkF m 0 #[.val (.ref q), .val (.ref t)] [])) _
    refine XS.aloadN X0.here hx rfl (hb hby own_d19_0) rfl rfl ?_
    show Steps p.tables e below (s₁.setTop (mkF m 1 #[.val (.ref q), .val (.ref t)] [(.ref q)])) _
    refine st1 _ ?_
    show Steps p.tables e below (T1.setTop (mkF m 4 #[.val (.ref q), .val (.ref t)] [(.ref kq)])) _
    refine st2 _ ?_
    refine st3 _ ?_
    show Steps p.tables e below (T3.setTop (mkF m 36 #[.val (.ref q), .val (.ref t)] [(.int rb)])) _
    exact retN X3 hx (t := .boolean) Bd.returns (by simp) (hb hby own_d19_36) hr
  · show own_Q_h3_13 Z q t D cD ich icc kA kS f0 f1 f2 f3 kq kt a ea vs x i a2 ea2 vs2 x2 i2 h0 n0 _ T3.heap _
    rw [e3]
    have en : nar .boolean rb = rb := own_bn hv3
    rw [en]
    exact ⟨rb, rfl, rfl, rfl, hv3⟩
def own_QL (n0 : Nat) (v : Option Value) (h : Heap) (L : List Loc) : Prop := v = some (.int (1 : Int32)) ∧ Fr n0 L
theorem own_since0 (s : State) : s.Since s.vm 0 := ⟨State.Warmed39.refl s, fun j p hj hp => absurd (Array.getElem?_eq_some_iff.mp hp).1 (Nat.not_lt.mpr hj)⟩
theorem own_wS {a0 : Array Value} {Z : State} (hw : ∀ d ∈ tables_1, d.before a0 Z = true) : ∀ a ∈ Bundle.stringAtoms, a.before a0 Z = true := fun d hd => by
  simp only [Bundle.stringAtoms, List.mem_cons, List.not_mem_nil, or_false] at hd
  rcases hd with rfl | rfl | rfl | rfl | rfl | rfl | rfl
  · exact (hw _ (List.mem_of_getElem? (i := 78) rfl))
  · exact (hw _ (List.mem_of_getElem? (i := 79) rfl))
  · exact (hw _ (List.mem_of_getElem? (i := 80) rfl))
  · exact (hw _ (List.mem_of_getElem? (i := 81) rfl))
  · exact (hw _ (List.mem_of_getElem? (i := 82) rfl))
  · exact (hw _ (List.mem_of_getElem? (i := 83) rfl))
  · exact (hw _ (List.mem_of_getElem? (i := 84) rfl))
theorem own_fin {kA kS kd : Addr} {p0 art rb eh : Int32} (h1 : own_hr kA kS kA kd art p0 rb) (h2 : (kd = kS ∧ ((art = p0 ∧ eh = (1 : Int32)) ∨ (¬ (art = p0) ∧ eh = (0 : Int32)))) ∨ (¬ (kd = kS) ∧ eh = (0 : Int32))) : rb = eh := by
  rcases h1 with ⟨-, ⟨a, h1⟩ | ⟨a, rfl⟩⟩ | ⟨a, -⟩
  · rcases h2 with ⟨-, h2⟩ | ⟨c, -⟩
    · rcases h1 with ⟨u, rfl⟩ | ⟨u, rfl⟩ <;> rcases h2 with ⟨v, rfl⟩ | ⟨v, rfl⟩
      · rfl
      · exact absurd u.symm v
      · exact absurd v.symm u
      · rfl
    · exact absurd a c
  · rcases h2 with ⟨c, -⟩ | ⟨-, rfl⟩; exact (absurd c a); exact (rfl)
  · exact absurd rfl a
theorem own_pd9 : parseMethodDescriptor "(I)Ljava/lang/Integer;" = some ⟨[.int], some (.object "java/lang/Integer")⟩ := by decide +kernel
theorem own_pd10 : parseMethodDescriptor "(Ljava/lang/Object;)Z" = some ⟨[(.object "java/lang/Object")], some .boolean⟩ := by decide +kernel
theorem own_pd11 : parseMethodDescriptor "(ILcom/example/witnesseth/witnesseth/Heading$Kind;Ljava/lang/String;Ljava/util/List;Ljava/lang/String;ZLcom/example/witnesseth/witnesseth/HeadingLine$Form;)V" = some ⟨[.int, (.object "com/example/witnesseth/witnesseth/Heading$Kind"), (.object "java/lang/String"), (.object "java/util/List"), (.object "java/lang/String"), .boolean, (.object "com/example/witnesseth/witnesseth/HeadingLine$Form")], none⟩ := by decide +kernel
theorem own_pd12 : parseMethodDescriptor "(Lcom/example/witnesseth/witnesseth/HeadingLine;)Z" = some ⟨[(.object "com/example/witnesseth/witnesseth/HeadingLine")], some .boolean⟩ := by decide +kernel
theorem own_ef0 (m : MethodId) (x0 : Int32) (x1 : Int32) (x2 : Int32) (x3 : Int32) : entryFrame m #[(.int x0), (.int x1), (.int x2), (.int x3)] maxLocals = mkF m 0 #[.val (.int x0), .val (.int x1), .val (.int x2), .val (.int x3), .unset, .unset, .unset, .unset, .unset, .unset, .unset, .unset, .unset, .unset, .unset] [] := by first | (simp [entryFrame, mkF, argsToLocals, Value.category, maxLocals]; done) | rfl
theorem own_pn9 : plainName "com/example/witnesseth/witnesseth/HeadingLineArticlePinLaw" = true := by first | (simp [plainName, overriddenIn]; done) | decide +kernel
set_option maxRecDepth 65536 in
set_option maxHeartbeats 40000000 in
theorem own_law0 (l : Launch) (Z : State) (a0 : Array Value) (hw : ∀ d ∈ tables_1, d.before a0 Z = true) (ws : List Jvm.Cond) (D : Addr) (cD : Cell) (ich : Addr) (icc : Cell) (kA : Addr) (kS : Addr) (f0 : Addr) (f1 : Addr) (f2 : Addr) (f3 : Addr) (p0 p1 p2 p3 : Int32) (h0 : Heap) (n0 : Nat) (O0 : Old Z n0 h0) (K : own_W Z D cD ich icc kA kS f0 f1 f2 f3) (hc : ((p3 &&& (3 : Int32)) % (3 : Int32)) = (0 : Int32)) :
    MetFree l x (head1 (Jvm.Cond.code x code maxLocals ret :: ws) room_1) (fun aa_ U_ => aa_ = #[(.int p0), (.int p1), (.int p2), (.int p3)] ∧ Z.Warmed39 U_.vm ∧ U_.heap = h0) (fun _ _ _ _ _ => True) (fun _ U_ oo_ UU_ => ∃ vv_ LL_, oo_ = .returned vv_ ∧ own_QL n0 vv_ UU_.heap LL_ ∧ ReturnedEndW U_ oo_ UU_ LL_ room_1.cells room_1.slots) := by
  have KK := K
  obtain ⟨SD, AD0, zD, SH, SC, AC0, zC, vC, SA, SS, neAS, S0, S1, S2, S3⟩ := KK
  have wS := own_wS hw
  refine MetFree.of_bodySF (plainFor_of_name own_pn9) hisR ?_
  intro p e s m args below meth c s₁ Bd hml0 hP hK
  obtain ⟨rfl, hZ, hh⟩ := hP
  have hx := Bd.exec
  have hby := Bd.bytes
  have hml : c.maxLocals = 15 := hml0
  have hown : s.vm.findClass "com/example/witnesseth/witnesseth/HeadingLineArticlePinLaw" = some m.cls := findClass_of_methodNamed Bd.named
  have hnm := (name_of_methodNamed Bd.named Bd.method).1
  have X0 : Stand p l e room_1 s m #[(.int p0), (.int p1), (.int p2), (.int p3)] below meth c s₁ [] 0 0 := Stand.of_body Bd
  have e0 : s₁.heap = h0 := by rw [← hh, Bd.state]; rfl
  have N0 := Fr.nil n0
  have pre0 : ∀ tt_, Steps p.tables e below (s₁.setTop (mkF m 0 #[.val (.int p0), .val (.int p1), .val (.int p2), .val (.int p3), .unset, .unset, .unset, .unset, .unset, .unset, .unset, .unset, .unset, .unset, .unset] [])) tt_ → Steps p.tables e below (s₁.setTop (entryFrame m #[(.int p0), (.int p1), (.int p2), (.int p3)] maxLocals)) tt_ := fun tt_ kk_ => castTop (own_ef0 m p0 p1 p2 p3) kk_
  obtain ⟨T1, h1, X1, e1, E1, A1, D1, -, st1⟩ := newO X0 hx hZ hown (hw _ (List.mem_of_getElem? (i := 0) rfl)) (hw _ (List.mem_of_getElem? (i := 1) rfl)) (hw _ (List.mem_of_getElem? (i := 2) rfl)) e0 (g := (mkF m 9 #[.val (.int p0), .val (.int p1), .val (.int p2), .val (.int p3), .val (.int (1 : Int32)), .unset, .unset, .unset, .unset, .unset, .unset, .unset, .unset, .unset, .unset] [])) rfl (hb hby at_9) (by decide) (by decide)
  obtain ⟨a, g1⟩ : ∃ z, z = h0.size := ⟨_, rfl⟩
  have g_a : n0 ≤ a := Nat.le_trans (Nat.le_trans (Nat.le_of_eq O0.1.symm) O0.2.1) (Nat.le_of_eq g1.symm)
  rw [← g1] at A1 D1 st1
  have O1 := O0.ext E1
  have F1_modCount : Fld Z h1 a "java/util/AbstractList" "modCount" "I" (.int (0 : Int32)) := D1 (Or.inl (hw _ (List.mem_of_getElem? (i := 22) rfl))) (ty := .int) (by decide)
  have F1_elementData : Fld Z h1 a "java/util/ArrayList" "elementData" "[Ljava/lang/Object;" .null := D1 (Or.inl (hw _ (List.mem_of_getElem? (i := 25) rfl))) (ty := (.array (.object "java/lang/Object"))) (by decide)
  have F1_size : Fld Z h1 a "java/util/ArrayList" "size" "I" (.int (0 : Int32)) := D1 (Or.inl (hw _ (List.mem_of_getElem? (i := 45) rfl))) (ty := .int) (by decide)
  obtain ⟨_, _, ⟨T2, L2, k2, n2⟩, -, X2, ⟨Lc2, hQ2, l2, y2, z2⟩, st2⟩ := X1.specialBack hx (y := (⟨"java/util/ArrayList", "<init>", "()V"⟩ : MethodName)) rfl hown (mvT hZ (hw _ (List.mem_of_getElem? (i := 3) rfl))) (mvT hZ (hw _ (List.mem_of_getElem? (i := 4) rfl))) (mvT hZ (hw _ (List.mem_of_getElem? (i := 5) rfl))) (by decide) (backOf (W := 1) (own_ali l Z a0 hw [] a D cD ich icc kA kS f0 f1 f2 f3 h1 n0 O1 K A1 F1_modCount F1_elementData F1_size g_a) hZ (hw _ (List.mem_of_getElem? (i := 5) rfl)) (hw _ (List.mem_of_getElem? (i := 2) rfl)) (by decide) (by decide)) (g := (mkF m 13 #[.val (.int p0), .val (.int p1), .val (.int p2), .val (.int p3), .val (.int (1 : Int32)), .unset, .unset, .unset, .unset, .unset, .unset, .unset, .unset, .unset, .unset] [(.ref a), (.ref a)])) rfl (by rw [hml]; rfl) (Steps.refl _) (a := a) (argsL := []) (rest := [(.ref a)]) (lenOf own_pd0 rfl) rfl (by show 2 * 0 + _ ≤ _; exact Nat.le_of_eq rfl) (hb hby at_13) (fun _ _ => ⟨rfl, e1, (by decide : 1 + 0 ≤ _), (by decide : 3 + 0 ≤ _)⟩)
  dsimp only [Pt.U, Pt.locs, Pt.cells, Pt.slots] at X2 l2 y2 z2 st2 hQ2
  subst l2 y2 z2
  obtain ⟨rfl, N2q, O2, K2, p2_E_a, p2_F_a_modCount, p2_F_a_elementData, p2_F_a_size⟩ := hQ2
  have N2 := Fr.app N0 N2q
  obtain ⟨_, _, ⟨T3, L3, k3, n3⟩, -, X3, ⟨Lc3, hQ3, l3, y3, z3⟩, st3⟩ := Jvm.LawKit.callS X2 hx (y := (⟨"java/lang/Integer", "valueOf", "(I)Ljava/lang/Integer;"⟩ : MethodName)) hown (mvT hZ (hw _ (List.mem_of_getElem? (i := 26) rfl))) (mvT hZ (hw _ (List.mem_of_getElem? (i := 27) rfl))) (mvT hZ (hw _ (List.mem_of_getElem? (i := 28) rfl))) (mvT hZ (hw _ (List.mem_of_getElem? (i := 29) rfl))) (by decide) (backOf (W := 1) (own_val l Z a0 hw [] p0 D cD ich icc kA kS f0 f1 f2 f3 T2.heap n0 O2 K ) hZ (hw _ (List.mem_of_getElem? (i := 29) rfl)) (hw _ (List.mem_of_getElem? (i := 28) rfl)) (by decide) (by decide)) (g := (mkF m 21 #[.val (.int p0), .val (.int p1), .val (.int p2), .val (.int p3), .val (.int (1 : Int32)), .val (.ref a), .unset, .unset, .unset, .unset, .unset, .unset, .unset, .unset, .unset] [(.int p0), (.ref a)])) rfl (by rw [hml]; rfl) (argsL := [(.int p0)]) (rest := [(.ref a)]) (lenOf own_pd9 rfl) rfl (by show 2 * 0 + _ ≤ _; exact Nat.le_of_eq rfl) (hb hby at_21) (fun _ _ => ⟨rfl, rfl, (by decide : 1 + 1 ≤ _), (by decide : 3 + 1 ≤ _)⟩)
  dsimp only [Pt.U, Pt.locs, Pt.cells, Pt.slots] at X3 l3 y3 z3 st3 hQ3
  subst l3 y3 z3
  obtain ⟨x1, rfl, N3q, O3, K3, p3_E_r, p3_F_r_value⟩ := hQ3
  have N3 := Fr.app N2 N3q
  have f3_E_a := p2_E_a.keep K3
  have f3_F_a_modCount := p2_F_a_modCount.keep K3 nin0
  have f3_F_a_elementData := p2_F_a_elementData.keep K3 nin0
  have f3_F_a_size := p2_F_a_size.keep K3 nin0
  have ne_x1_a : x1 ≠ a := ne_exa p3_E_r f3_E_a (by decide)
  obtain ⟨cq4, kq4, q4a, q4b, q4c⟩ := isOf hZ rfl f3_E_a
  obtain ⟨_, _, ⟨T4, L4, k4, n4⟩, -, X4, ⟨Lc4, hQ4, l4, y4, z4⟩, st4⟩ := X3.interfaceBack hx (xi := (⟨"java/util/List", "add", "(Ljava/lang/Object;)Z"⟩ : MethodName)) (y := (⟨"java/util/ArrayList", "add", "(Ljava/lang/Object;)Z"⟩ : MethodName)) hown (mvT hZ (hw _ (List.mem_of_getElem? (i := 33) rfl))) (mvT hZ (hw _ (List.mem_of_getElem? (i := 34) rfl))) (mvT hZ (hw _ (List.mem_of_getElem? (i := 35) rfl))) (mvT hZ (hw _ (List.mem_of_getElem? (i := 36) rfl))) (mvT hZ (hw _ (List.mem_of_getElem? (i := 37) rfl))) (mvT hZ (hw _ (List.mem_of_getElem? (i := 38) rfl))) (mvT hZ (hw _ (List.mem_of_getElem? (i := 39) rfl))) (mvT hZ (hw _ (List.mem_of_getElem? (i := 40) rfl))) (by decide) (backOf (W := 0) (own_add l Z a0 hw [] a x1 D cD ich icc kA kS f0 f1 f2 f3 T3.heap n0 O3 K f3_E_a f3_F_a_modCount f3_F_a_elementData f3_F_a_size g_a (Ins.of_exa p3_E_r (hw _ (List.mem_of_getElem? (i := 67) rfl)))) hZ (hw _ (List.mem_of_getElem? (i := 41) rfl)) (hw _ (List.mem_of_getElem? (i := 2) rfl)) (by decide) (by decide)) q4a q4b q4c (g := (mkF m 24 #[.val (.int p0), .val (.int p1), .val (.int p2), .val (.int p3), .val (.int (1 : Int32)), .val (.ref a), .unset, .unset, .unset, .unset, .unset, .unset, .unset, .unset, .unset] [(.ref x1), (.ref a)])) rfl (by rw [hml]; rfl) (Steps.refl _) (argsL := [(.ref x1)]) (rest := []) (lenOf own_pd10 rfl) rfl (by show 2 * 0 + _ ≤ _; exact Nat.le_of_eq rfl) (hb hby at_24) (fun _ _ => ⟨rfl, rfl, (by decide : 2 + 1 ≤ _), (by decide : 4 + 10 ≤ _)⟩)
  dsimp only [Pt.U, Pt.locs, Pt.cells, Pt.slots] at X4 l4 y4 z4 st4 hQ4
  subst l4 y4 z4
  obtain ⟨ea, rfl, N4q, O4, K4, p4_L_a, p4_fresh_ea⟩ := hQ4
  have N4 := Fr.app N3 N4q
  have ne_a_ea : a ≠ ea := Nat.ne_of_lt (Nat.lt_of_lt_of_le f3_E_a.lt p4_fresh_ea)
  have ne_x1_ea : x1 ≠ ea := Nat.ne_of_lt (Nat.lt_of_lt_of_le p3_E_r.lt p4_fresh_ea)
  have g_ea : n0 ≤ ea := Nat.le_trans (Nat.le_trans (Nat.le_of_eq O3.1.symm) O3.2.1) p4_fresh_ea
  have f4_E_x1 := p3_E_r.keep K4
  have f4_F_x1_value := p3_F_r_value.keep K4 (ninS ne_x1_a nin0)
  obtain ⟨T5, kd, hv5, ⟨X5, e5⟩, st5⟩ : ∃ (T' : State) (kd : Addr), ((((p3 >>> ((2 : Int32) &&& 31)) &&& (1 : Int32)) = (0 : Int32) ∧ kd = kA) ∨ (¬ (((p3 >>> ((2 : Int32) &&& 31)) &&& (1 : Int32)) = (0 : Int32)) ∧ kd = kS)) ∧ own_Go X4 T4.heap T' ∧ ∀ target, Steps p.tables e below (T'.setTop (mkF m 83 #[.val (.int p0), .val (.int p1), .val (.int p2), .val (.int p3), .val (.int (1 : Int32)), .val (.ref a), .unset, .unset, .unset, .unset, .unset, .unset, .unset, .unset, .unset] [(.ref kd)])) target → Steps p.tables e below (T4.setTop (mkF m 71 #[.val (.int p0), .val (.int p1), .val (.int p2), .val (.int p3), .val (.int (1 : Int32)), .val (.ref a), .unset, .unset, .unset, .unset, .unset, .unset, .unset, .unset, .unset] [(.int ((p3 >>> ((2 : Int32) &&& 31)) &&& (1 : Int32)))])) target := by
    by_cases hf5 : ((p3 >>> ((2 : Int32) &&& 31)) &&& (1 : Int32)) = (0 : Int32)
    · obtain ⟨T6, X6, e6, st6⟩ := getS2 X4 hx hZ hown (host := "") (Or.inl (hw _ (List.mem_of_getElem? (i := 68) rfl))) Via.refl rfl (SA.ext O4.2) (g := (mkF m 80 #[.val (.int p0), .val (.int p1), .val (.int p2), .val (.int p3), .val (.int (1 : Int32)), .val (.ref a), .unset, .unset, .unset, .unset, .unset, .unset, .unset, .unset, .unset] [])) rfl (hb hby at_80)
      refine ⟨T6, kA, Or.inl ⟨hf5, rfl⟩, ⟨X6, e6⟩, fun target kgo_ => ?_⟩
      show Steps p.tables e below (T4.setTop (mkF m 71 #[.val (.int p0), .val (.int p1), .val (.int p2), .val (.int p3), .val (.int (1 : Int32)), .val (.ref a), .unset, .unset, .unset, .unset, .unset, .unset, .unset, .unset, .unset] [(.int ((p3 >>> ((2 : Int32) &&& 31)) &&& (1 : Int32)))])) _
      refine XS.ifYes X4.here hx rfl (pc0 := 71) (pc' := 80) rfl (hb hby at_71) rfl ((if0 _ _).trans (teq hf5).1) (by decide) (by decide) ?_
      show Steps p.tables e below (T4.setTop (mkF m 80 #[.val (.int p0), .val (.int p1), .val (.int p2), .val (.int p3), .val (.int (1 : Int32)), .val (.ref a), .unset, .unset, .unset, .unset, .unset, .unset, .unset, .unset, .unset] [])) _
      refine st6 _ ?_
      show Steps p.tables e below (T6.setTop (mkF m 83 #[.val (.int p0), .val (.int p1), .val (.int p2), .val (.int p3), .val (.int (1 : Int32)), .val (.ref a), .unset, .unset, .unset, .unset, .unset, .unset, .unset, .unset, .unset] [(.ref kA)])) _
      exact kgo_
    · obtain ⟨T7, X7, e7, st7⟩ := getS2 X4 hx hZ hown (host := "") (Or.inl (hw _ (List.mem_of_getElem? (i := 109) rfl))) Via.refl rfl (SS.ext O4.2) (g := (mkF m 74 #[.val (.int p0), .val (.int p1), .val (.int p2), .val (.int p3), .val (.int (1 : Int32)), .val (.ref a), .unset, .unset, .unset, .unset, .unset, .unset, .unset, .unset, .unset] [])) rfl (hb hby at_74)
      refine ⟨T7, kS, Or.inr ⟨hf5, rfl⟩, ⟨X7, e7⟩, fun target kgo_ => ?_⟩
      show Steps p.tables e below (T4.setTop (mkF m 71 #[.val (.int p0), .val (.int p1), .val (.int p2), .val (.int p3), .val (.int (1 : Int32)), .val (.ref a), .unset, .unset, .unset, .unset, .unset, .unset, .unset, .unset, .unset] [(.int ((p3 >>> ((2 : Int32) &&& 31)) &&& (1 : Int32)))])) _
      refine XS.ifNo X4.here hx rfl (hb hby at_71) rfl ((if0 _ _).trans (feq hf5).1) ?_
      show Steps p.tables e below (T4.setTop (mkF m 74 #[.val (.int p0), .val (.int p1), .val (.int p2), .val (.int p3), .val (.int (1 : Int32)), .val (.ref a), .unset, .unset, .unset, .unset, .unset, .unset, .unset, .unset, .unset] [])) _
      refine st7 _ ?_
      show Steps p.tables e below (T7.setTop (mkF m 77 #[.val (.int p0), .val (.int p1), .val (.int p2), .val (.int p3), .val (.int (1 : Int32)), .val (.ref a), .unset, .unset, .unset, .unset, .unset, .unset, .unset, .unset, .unset] [(.ref kS)])) _
      refine XS.goto X7.here hx rfl (pc0 := 77) (pc' := 83) rfl (hb hby at_77) (by decide) (by decide) ?_
      show Steps p.tables e below (T7.setTop (mkF m 83 #[.val (.int p0), .val (.int p1), .val (.int p2), .val (.int p3), .val (.int (1 : Int32)), .val (.ref a), .unset, .unset, .unset, .unset, .unset, .unset, .unset, .unset, .unset] [(.ref kS)])) _
      exact kgo_
  obtain ⟨T8, fo, hv8, ⟨X8, e8⟩, st8⟩ : ∃ (T' : State) (fo : Addr), ((((p3 >>> ((3 : Int32) &&& 31)) &&& (3 : Int32)) = (0 : Int32) ∧ fo = f0) ∨ (¬ (((p3 >>> ((3 : Int32) &&& 31)) &&& (3 : Int32)) = (0 : Int32)) ∧ ((((p3 >>> ((3 : Int32) &&& 31)) &&& (3 : Int32)) = (1 : Int32) ∧ fo = f1) ∨ (¬ (((p3 >>> ((3 : Int32) &&& 31)) &&& (3 : Int32)) = (1 : Int32)) ∧ ((((p3 >>> ((3 : Int32) &&& 31)) &&& (3 : Int32)) = (2 : Int32) ∧ fo = f2) ∨ (¬ (((p3 >>> ((3 : Int32) &&& 31)) &&& (3 : Int32)) = (2 : Int32)) ∧ fo = f3)))))) ∧ own_Go X5 T4.heap T' ∧ ∀ target, Steps p.tables e below (T'.setTop (mkF m 130 #[.val (.int p0), .val (.int p1), .val (.int p2), .val (.int p3), .val (.int (1 : Int32)), .val (.ref a), .val (.ref kd), .val (.int ((p3 >>> ((3 : Int32) &&& 31)) &&& (3 : Int32))), .unset, .unset, .unset, .unset, .unset, .unset, .unset] [(.ref fo)])) target → Steps p.tables e below (T5.setTop (mkF m 94 #[.val (.int p0), .val (.int p1), .val (.int p2), .val (.int p3), .val (.int (1 : Int32)), .val (.ref a), .val (.ref kd), .val (.int ((p3 >>> ((3 : Int32) &&& 31)) &&& (3 : Int32))), .unset, .unset, .unset, .unset, .unset, .unset, .unset] [(.int ((p3 >>> ((3 : Int32) &&& 31)) &&& (3 : Int32)))])) target := by
    by_cases hf8 : ((p3 >>> ((3 : Int32) &&& 31)) &&& (3 : Int32)) = (0 : Int32)
    · obtain ⟨T9, X9, e9, st9⟩ := getS2 X5 hx hZ hown (host := "") (Or.inl (hw _ (List.mem_of_getElem? (i := 71) rfl))) Via.refl e5 (S0.ext O4.2) (g := (mkF m 97 #[.val (.int p0), .val (.int p1), .val (.int p2), .val (.int p3), .val (.int (1 : Int32)), .val (.ref a), .val (.ref kd), .val (.int ((p3 >>> ((3 : Int32) &&& 31)) &&& (3 : Int32))), .unset, .unset, .unset, .unset, .unset, .unset, .unset] [])) rfl (hb hby at_97)
      refine ⟨T9, f0, Or.inl ⟨hf8, rfl⟩, ⟨X9, e9⟩, fun target kgo_ => ?_⟩
      show Steps p.tables e below (T5.setTop (mkF m 94 #[.val (.int p0), .val (.int p1), .val (.int p2), .val (.int p3), .val (.int (1 : Int32)), .val (.ref a), .val (.ref kd), .val (.int ((p3 >>> ((3 : Int32) &&& 31)) &&& (3 : Int32))), .unset, .unset, .unset, .unset, .unset, .unset, .unset] [(.int ((p3 >>> ((3 : Int32) &&& 31)) &&& (3 : Int32)))])) _
      refine XS.ifNo X5.here hx rfl (hb hby at_94) rfl ((if0 _ _).trans (teq hf8).2) ?_
      show Steps p.tables e below (T5.setTop (mkF m 97 #[.val (.int p0), .val (.int p1), .val (.int p2), .val (.int p3), .val (.int (1 : Int32)), .val (.ref a), .val (.ref kd), .val (.int ((p3 >>> ((3 : Int32) &&& 31)) &&& (3 : Int32))), .unset, .unset, .unset, .unset, .unset, .unset, .unset] [])) _
      refine st9 _ ?_
      show Steps p.tables e below (T9.setTop (mkF m 100 #[.val (.int p0), .val (.int p1), .val (.int p2), .val (.int p3), .val (.int (1 : Int32)), .val (.ref a), .val (.ref kd), .val (.int ((p3 >>> ((3 : Int32) &&& 31)) &&& (3 : Int32))), .unset, .unset, .unset, .unset, .unset, .unset, .unset] [(.ref f0)])) _
      refine XS.goto X9.here hx rfl (pc0 := 100) (pc' := 130) rfl (hb hby at_100) (by decide) (by decide) ?_
      show Steps p.tables e below (T9.setTop (mkF m 130 #[.val (.int p0), .val (.int p1), .val (.int p2), .val (.int p3), .val (.int (1 : Int32)), .val (.ref a), .val (.ref kd), .val (.int ((p3 >>> ((3 : Int32) &&& 31)) &&& (3 : Int32))), .unset, .unset, .unset, .unset, .unset, .unset, .unset] [(.ref f0)])) _
      exact kgo_
    · obtain ⟨T10, w10_0, hv10, ⟨X10, e10⟩, st10⟩ : ∃ (T' : State) (w10_0 : Addr), ((((p3 >>> ((3 : Int32) &&& 31)) &&& (3 : Int32)) = (1 : Int32) ∧ w10_0 = f1) ∨ (¬ (((p3 >>> ((3 : Int32) &&& 31)) &&& (3 : Int32)) = (1 : Int32)) ∧ ((((p3 >>> ((3 : Int32) &&& 31)) &&& (3 : Int32)) = (2 : Int32) ∧ w10_0 = f2) ∨ (¬ (((p3 >>> ((3 : Int32) &&& 31)) &&& (3 : Int32)) = (2 : Int32)) ∧ w10_0 = f3)))) ∧ own_Go X5 T4.heap T' ∧ ∀ target, Steps p.tables e below (T'.setTop (mkF m 130 #[.val (.int p0), .val (.int p1), .val (.int p2), .val (.int p3), .val (.int (1 : Int32)), .val (.ref a), .val (.ref kd), .val (.int ((p3 >>> ((3 : Int32) &&& 31)) &&& (3 : Int32))), .unset, .unset, .unset, .unset, .unset, .unset, .unset] [(.ref w10_0)])) target → Steps p.tables e below (T5.setTop (mkF m 106 #[.val (.int p0), .val (.int p1), .val (.int p2), .val (.int p3), .val (.int (1 : Int32)), .val (.ref a), .val (.ref kd), .val (.int ((p3 >>> ((3 : Int32) &&& 31)) &&& (3 : Int32))), .unset, .unset, .unset, .unset, .unset, .unset, .unset] [(.int (1 : Int32)), (.int ((p3 >>> ((3 : Int32) &&& 31)) &&& (3 : Int32)))])) target := by
        by_cases hf10 : ((p3 >>> ((3 : Int32) &&& 31)) &&& (3 : Int32)) = (1 : Int32)
        · obtain ⟨T11, X11, e11, st11⟩ := getS2 X5 hx hZ hown (host := "") (Or.inl (hw _ (List.mem_of_getElem? (i := 153) rfl))) Via.refl e5 (S1.ext O4.2) (g := (mkF m 109 #[.val (.int p0), .val (.int p1), .val (.int p2), .val (.int p3), .val (.int (1 : Int32)), .val (.ref a), .val (.ref kd), .val (.int ((p3 >>> ((3 : Int32) &&& 31)) &&& (3 : Int32))), .unset, .unset, .unset, .unset, .unset, .unset, .unset] [])) rfl (hb hby at_109)
          refine ⟨T11, f1, Or.inl ⟨hf10, rfl⟩, ⟨X11, e11⟩, fun target kgo_ => ?_⟩
          show Steps p.tables e below (T5.setTop (mkF m 106 #[.val (.int p0), .val (.int p1), .val (.int p2), .val (.int p3), .val (.int (1 : Int32)), .val (.ref a), .val (.ref kd), .val (.int ((p3 >>> ((3 : Int32) &&& 31)) &&& (3 : Int32))), .unset, .unset, .unset, .unset, .unset, .unset, .unset] [(.int (1 : Int32)), (.int ((p3 >>> ((3 : Int32) &&& 31)) &&& (3 : Int32)))])) _
          refine XS.icmpNo X5.here hx rfl (hb hby at_106) rfl (teq hf10).2 ?_
          show Steps p.tables e below (T5.setTop (mkF m 109 #[.val (.int p0), .val (.int p1), .val (.int p2), .val (.int p3), .val (.int (1 : Int32)), .val (.ref a), .val (.ref kd), .val (.int ((p3 >>> ((3 : Int32) &&& 31)) &&& (3 : Int32))), .unset, .unset, .unset, .unset, .unset, .unset, .unset] [])) _
          refine st11 _ ?_
          show Steps p.tables e below (T11.setTop (mkF m 112 #[.val (.int p0), .val (.int p1), .val (.int p2), .val (.int p3), .val (.int (1 : Int32)), .val (.ref a), .val (.ref kd), .val (.int ((p3 >>> ((3 : Int32) &&& 31)) &&& (3 : Int32))), .unset, .unset, .unset, .unset, .unset, .unset, .unset] [(.ref f1)])) _
          refine XS.goto X11.here hx rfl (pc0 := 112) (pc' := 130) rfl (hb hby at_112) (by decide) (by decide) ?_
          show Steps p.tables e below (T11.setTop (mkF m 130 #[.val (.int p0), .val (.int p1), .val (.int p2), .val (.int p3), .val (.int (1 : Int32)), .val (.ref a), .val (.ref kd), .val (.int ((p3 >>> ((3 : Int32) &&& 31)) &&& (3 : Int32))), .unset, .unset, .unset, .unset, .unset, .unset, .unset] [(.ref f1)])) _
          exact kgo_
        · obtain ⟨T12, w12_0, hv12, ⟨X12, e12⟩, st12⟩ : ∃ (T' : State) (w12_0 : Addr), ((((p3 >>> ((3 : Int32) &&& 31)) &&& (3 : Int32)) = (2 : Int32) ∧ w12_0 = f2) ∨ (¬ (((p3 >>> ((3 : Int32) &&& 31)) &&& (3 : Int32)) = (2 : Int32)) ∧ w12_0 = f3)) ∧ own_Go X5 T4.heap T' ∧ ∀ target, Steps p.tables e below (T'.setTop (mkF m 130 #[.val (.int p0), .val (.int p1), .val (.int p2), .val (.int p3), .val (.int (1 : Int32)), .val (.ref a), .val (.ref kd), .val (.int ((p3 >>> ((3 : Int32) &&& 31)) &&& (3 : Int32))), .unset, .unset, .unset, .unset, .unset, .unset, .unset] [(.ref w12_0)])) target → Steps p.tables e below (T5.setTop (mkF m 118 #[.val (.int p0), .val (.int p1), .val (.int p2), .val (.int p3), .val (.int (1 : Int32)), .val (.ref a), .val (.ref kd), .val (.int ((p3 >>> ((3 : Int32) &&& 31)) &&& (3 : Int32))), .unset, .unset, .unset, .unset, .unset, .unset, .unset] [(.int (2 : Int32)), (.int ((p3 >>> ((3 : Int32) &&& 31)) &&& (3 : Int32)))])) target := by
            by_cases hf12 : ((p3 >>> ((3 : Int32) &&& 31)) &&& (3 : Int32)) = (2 : Int32)
            · obtain ⟨T13, X13, e13, st13⟩ := getS2 X5 hx hZ hown (host := "") (Or.inl (hw _ (List.mem_of_getElem? (i := 168) rfl))) Via.refl e5 (S2.ext O4.2) (g := (mkF m 121 #[.val (.int p0), .val (.int p1), .val (.int p2), .val (.int p3), .val (.int (1 : Int32)), .val (.ref a), .val (.ref kd), .val (.int ((p3 >>> ((3 : Int32) &&& 31)) &&& (3 : Int32))), .unset, .unset, .unset, .unset, .unset, .unset, .unset] [])) rfl (hb hby at_121)
              refine ⟨T13, f2, Or.inl ⟨hf12, rfl⟩, ⟨X13, e13⟩, fun target kgo_ => ?_⟩
              show Steps p.tables e below (T5.setTop (mkF m 118 #[.val (.int p0), .val (.int p1), .val (.int p2), .val (.int p3), .val (.int (1 : Int32)), .val (.ref a), .val (.ref kd), .val (.int ((p3 >>> ((3 : Int32) &&& 31)) &&& (3 : Int32))), .unset, .unset, .unset, .unset, .unset, .unset, .unset] [(.int (2 : Int32)), (.int ((p3 >>> ((3 : Int32) &&& 31)) &&& (3 : Int32)))])) _
              refine XS.icmpNo X5.here hx rfl (hb hby at_118) rfl (teq hf12).2 ?_
              show Steps p.tables e below (T5.setTop (mkF m 121 #[.val (.int p0), .val (.int p1), .val (.int p2), .val (.int p3), .val (.int (1 : Int32)), .val (.ref a), .val (.ref kd), .val (.int ((p3 >>> ((3 : Int32) &&& 31)) &&& (3 : Int32))), .unset, .unset, .unset, .unset, .unset, .unset, .unset] [])) _
              refine st13 _ ?_
              show Steps p.tables e below (T13.setTop (mkF m 124 #[.val (.int p0), .val (.int p1), .val (.int p2), .val (.int p3), .val (.int (1 : Int32)), .val (.ref a), .val (.ref kd), .val (.int ((p3 >>> ((3 : Int32) &&& 31)) &&& (3 : Int32))), .unset, .unset, .unset, .unset, .unset, .unset, .unset] [(.ref f2)])) _
              refine XS.goto X13.here hx rfl (pc0 := 124) (pc' := 130) rfl (hb hby at_124) (by decide) (by decide) ?_
              show Steps p.tables e below (T13.setTop (mkF m 130 #[.val (.int p0), .val (.int p1), .val (.int p2), .val (.int p3), .val (.int (1 : Int32)), .val (.ref a), .val (.ref kd), .val (.int ((p3 >>> ((3 : Int32) &&& 31)) &&& (3 : Int32))), .unset, .unset, .unset, .unset, .unset, .unset, .unset] [(.ref f2)])) _
              exact kgo_
            · obtain ⟨T14, X14, e14, st14⟩ := getS2 X5 hx hZ hown (host := "") (Or.inl (hw _ (List.mem_of_getElem? (i := 170) rfl))) Via.refl e5 (S3.ext O4.2) (g := (mkF m 127 #[.val (.int p0), .val (.int p1), .val (.int p2), .val (.int p3), .val (.int (1 : Int32)), .val (.ref a), .val (.ref kd), .val (.int ((p3 >>> ((3 : Int32) &&& 31)) &&& (3 : Int32))), .unset, .unset, .unset, .unset, .unset, .unset, .unset] [])) rfl (hb hby at_127)
              refine ⟨T14, f3, Or.inr ⟨hf12, rfl⟩, ⟨X14, e14⟩, fun target kgo_ => ?_⟩
              show Steps p.tables e below (T5.setTop (mkF m 118 #[.val (.int p0), .val (.int p1), .val (.int p2), .val (.int p3), .val (.int (1 : Int32)), .val (.ref a), .val (.ref kd), .val (.int ((p3 >>> ((3 : Int32) &&& 31)) &&& (3 : Int32))), .unset, .unset, .unset, .unset, .unset, .unset, .unset] [(.int (2 : Int32)), (.int ((p3 >>> ((3 : Int32) &&& 31)) &&& (3 : Int32)))])) _
              refine XS.icmpYes X5.here hx rfl (pc0 := 118) (pc' := 127) rfl (hb hby at_118) rfl (feq hf12).2 (by decide) (by decide) ?_
              show Steps p.tables e below (T5.setTop (mkF m 127 #[.val (.int p0), .val (.int p1), .val (.int p2), .val (.int p3), .val (.int (1 : Int32)), .val (.ref a), .val (.ref kd), .val (.int ((p3 >>> ((3 : Int32) &&& 31)) &&& (3 : Int32))), .unset, .unset, .unset, .unset, .unset, .unset, .unset] [])) _
              refine st14 _ ?_
              show Steps p.tables e below (T14.setTop (mkF m 130 #[.val (.int p0), .val (.int p1), .val (.int p2), .val (.int p3), .val (.int (1 : Int32)), .val (.ref a), .val (.ref kd), .val (.int ((p3 >>> ((3 : Int32) &&& 31)) &&& (3 : Int32))), .unset, .unset, .unset, .unset, .unset, .unset, .unset] [(.ref f3)])) _
              exact kgo_
          refine ⟨T12, w12_0, Or.inr ⟨hf10, hv12⟩, ⟨X12, e12⟩, fun target kgo_ => ?_⟩
          show Steps p.tables e below (T5.setTop (mkF m 106 #[.val (.int p0), .val (.int p1), .val (.int p2), .val (.int p3), .val (.int (1 : Int32)), .val (.ref a), .val (.ref kd), .val (.int ((p3 >>> ((3 : Int32) &&& 31)) &&& (3 : Int32))), .unset, .unset, .unset, .unset, .unset, .unset, .unset] [(.int (1 : Int32)), (.int ((p3 >>> ((3 : Int32) &&& 31)) &&& (3 : Int32)))])) _
          refine XS.icmpYes X5.here hx rfl (pc0 := 106) (pc' := 115) rfl (hb hby at_106) rfl (feq hf10).2 (by decide) (by decide) ?_
          show Steps p.tables e below (T5.setTop (mkF m 115 #[.val (.int p0), .val (.int p1), .val (.int p2), .val (.int p3), .val (.int (1 : Int32)), .val (.ref a), .val (.ref kd), .val (.int ((p3 >>> ((3 : Int32) &&& 31)) &&& (3 : Int32))), .unset, .unset, .unset, .unset, .unset, .unset, .unset] [])) _
          refine XS.iload X5.here hx rfl (hb hby at_115) rfl ?_
          show Steps p.tables e below (T5.setTop (mkF m 117 #[.val (.int p0), .val (.int p1), .val (.int p2), .val (.int p3), .val (.int (1 : Int32)), .val (.ref a), .val (.ref kd), .val (.int ((p3 >>> ((3 : Int32) &&& 31)) &&& (3 : Int32))), .unset, .unset, .unset, .unset, .unset, .unset, .unset] [(.int ((p3 >>> ((3 : Int32) &&& 31)) &&& (3 : Int32)))])) _
          refine XS.iconst X5.here hx rfl (hb hby at_117) ?_
          refine st12 _ ?_
          show Steps p.tables e below (T12.setTop (mkF m 130 #[.val (.int p0), .val (.int p1), .val (.int p2), .val (.int p3), .val (.int (1 : Int32)), .val (.ref a), .val (.ref kd), .val (.int ((p3 >>> ((3 : Int32) &&& 31)) &&& (3 : Int32))), .unset, .unset, .unset, .unset, .unset, .unset, .unset] [(.ref w12_0)])) _
          exact kgo_
      refine ⟨T10, w10_0, Or.inr ⟨hf8, hv10⟩, ⟨X10, e10⟩, fun target kgo_ => ?_⟩
      show Steps p.tables e below (T5.setTop (mkF m 94 #[.val (.int p0), .val (.int p1), .val (.int p2), .val (.int p3), .val (.int (1 : Int32)), .val (.ref a), .val (.ref kd), .val (.int ((p3 >>> ((3 : Int32) &&& 31)) &&& (3 : Int32))), .unset, .unset, .unset, .unset, .unset, .unset, .unset] [(.int ((p3 >>> ((3 : Int32) &&& 31)) &&& (3 : Int32)))])) _
      refine XS.ifYes X5.here hx rfl (pc0 := 94) (pc' := 103) rfl (hb hby at_94) rfl ((if0 _ _).trans (feq hf8).2) (by decide) (by decide) ?_
      show Steps p.tables e below (T5.setTop (mkF m 103 #[.val (.int p0), .val (.int p1), .val (.int p2), .val (.int p3), .val (.int (1 : Int32)), .val (.ref a), .val (.ref kd), .val (.int ((p3 >>> ((3 : Int32) &&& 31)) &&& (3 : Int32))), .unset, .unset, .unset, .unset, .unset, .unset, .unset] [])) _
      refine XS.iload X5.here hx rfl (hb hby at_103) rfl ?_
      show Steps p.tables e below (T5.setTop (mkF m 105 #[.val (.int p0), .val (.int p1), .val (.int p2), .val (.int p3), .val (.int (1 : Int32)), .val (.ref a), .val (.ref kd), .val (.int ((p3 >>> ((3 : Int32) &&& 31)) &&& (3 : Int32))), .unset, .unset, .unset, .unset, .unset, .unset, .unset] [(.int ((p3 >>> ((3 : Int32) &&& 31)) &&& (3 : Int32)))])) _
      refine XS.iconst X5.here hx rfl (hb hby at_105) ?_
      refine st10 _ ?_
      show Steps p.tables e below (T10.setTop (mkF m 130 #[.val (.int p0), .val (.int p1), .val (.int p2), .val (.int p3), .val (.int (1 : Int32)), .val (.ref a), .val (.ref kd), .val (.int ((p3 >>> ((3 : Int32) &&& 31)) &&& (3 : Int32))), .unset, .unset, .unset, .unset, .unset, .unset, .unset] [(.ref w10_0)])) _
      exact kgo_
  obtain ⟨T15, car, hv15, ⟨X15, e15⟩, st15⟩ : ∃ (T' : State) (car : Int32), ((((p3 >>> ((5 : Int32) &&& 31)) &&& (1 : Int32)) = (0 : Int32) ∧ car = (0 : Int32)) ∨ (¬ (((p3 >>> ((5 : Int32) &&& 31)) &&& (1 : Int32)) = (0 : Int32)) ∧ car = (1 : Int32))) ∧ own_Go X8 T4.heap T' ∧ ∀ target, Steps p.tables e below (T'.setTop (mkF m 145 #[.val (.int p0), .val (.int p1), .val (.int p2), .val (.int p3), .val (.int (1 : Int32)), .val (.ref a), .val (.ref kd), .val (.int ((p3 >>> ((3 : Int32) &&& 31)) &&& (3 : Int32))), .val (.ref fo), .unset, .unset, .unset, .unset, .unset, .unset] [(.int car)])) target → Steps p.tables e below (T8.setTop (mkF m 137 #[.val (.int p0), .val (.int p1), .val (.int p2), .val (.int p3), .val (.int (1 : Int32)), .val (.ref a), .val (.ref kd), .val (.int ((p3 >>> ((3 : Int32) &&& 31)) &&& (3 : Int32))), .val (.ref fo), .unset, .unset, .unset, .unset, .unset, .unset] [(.int ((p3 >>> ((5 : Int32) &&& 31)) &&& (1 : Int32)))])) target := by
    by_cases hf15 : ((p3 >>> ((5 : Int32) &&& 31)) &&& (1 : Int32)) = (0 : Int32)
    · refine ⟨T8, (0 : Int32), Or.inl ⟨hf15, rfl⟩, ⟨X8, e8⟩, fun target kgo_ => ?_⟩
      show Steps p.tables e below (T8.setTop (mkF m 137 #[.val (.int p0), .val (.int p1), .val (.int p2), .val (.int p3), .val (.int (1 : Int32)), .val (.ref a), .val (.ref kd), .val (.int ((p3 >>> ((3 : Int32) &&& 31)) &&& (3 : Int32))), .val (.ref fo), .unset, .unset, .unset, .unset, .unset, .unset] [(.int ((p3 >>> ((5 : Int32) &&& 31)) &&& (1 : Int32)))])) _
      refine XS.ifYes X8.here hx rfl (pc0 := 137) (pc' := 144) rfl (hb hby at_137) rfl ((if0 _ _).trans (teq hf15).1) (by decide) (by decide) ?_
      show Steps p.tables e below (T8.setTop (mkF m 144 #[.val (.int p0), .val (.int p1), .val (.int p2), .val (.int p3), .val (.int (1 : Int32)), .val (.ref a), .val (.ref kd), .val (.int ((p3 >>> ((3 : Int32) &&& 31)) &&& (3 : Int32))), .val (.ref fo), .unset, .unset, .unset, .unset, .unset, .unset] [])) _
      refine XS.iconst X8.here hx rfl (hb hby at_144) ?_
      show Steps p.tables e below (T8.setTop (mkF m 145 #[.val (.int p0), .val (.int p1), .val (.int p2), .val (.int p3), .val (.int (1 : Int32)), .val (.ref a), .val (.ref kd), .val (.int ((p3 >>> ((3 : Int32) &&& 31)) &&& (3 : Int32))), .val (.ref fo), .unset, .unset, .unset, .unset, .unset, .unset] [(.int (0 : Int32))])) _
      exact kgo_
    · refine ⟨T8, (1 : Int32), Or.inr ⟨hf15, rfl⟩, ⟨X8, e8⟩, fun target kgo_ => ?_⟩
      show Steps p.tables e below (T8.setTop (mkF m 137 #[.val (.int p0), .val (.int p1), .val (.int p2), .val (.int p3), .val (.int (1 : Int32)), .val (.ref a), .val (.ref kd), .val (.int ((p3 >>> ((3 : Int32) &&& 31)) &&& (3 : Int32))), .val (.ref fo), .unset, .unset, .unset, .unset, .unset, .unset] [(.int ((p3 >>> ((5 : Int32) &&& 31)) &&& (1 : Int32)))])) _
      refine XS.ifNo X8.here hx rfl (hb hby at_137) rfl ((if0 _ _).trans (feq hf15).1) ?_
      show Steps p.tables e below (T8.setTop (mkF m 140 #[.val (.int p0), .val (.int p1), .val (.int p2), .val (.int p3), .val (.int (1 : Int32)), .val (.ref a), .val (.ref kd), .val (.int ((p3 >>> ((3 : Int32) &&& 31)) &&& (3 : Int32))), .val (.ref fo), .unset, .unset, .unset, .unset, .unset, .unset] [])) _
      refine XS.iconst X8.here hx rfl (hb hby at_140) ?_
      show Steps p.tables e below (T8.setTop (mkF m 141 #[.val (.int p0), .val (.int p1), .val (.int p2), .val (.int p3), .val (.int (1 : Int32)), .val (.ref a), .val (.ref kd), .val (.int ((p3 >>> ((3 : Int32) &&& 31)) &&& (3 : Int32))), .val (.ref fo), .unset, .unset, .unset, .unset, .unset, .unset] [(.int (1 : Int32))])) _
      refine XS.goto X8.here hx rfl (pc0 := 141) (pc' := 145) rfl (hb hby at_141) (by decide) (by decide) ?_
      show Steps p.tables e below (T8.setTop (mkF m 145 #[.val (.int p0), .val (.int p1), .val (.int p2), .val (.int p3), .val (.int (1 : Int32)), .val (.ref a), .val (.ref kd), .val (.int ((p3 >>> ((3 : Int32) &&& 31)) &&& (3 : Int32))), .val (.ref fo), .unset, .unset, .unset, .unset, .unset, .unset] [(.int (1 : Int32))])) _
      exact kgo_
  obtain ⟨T16, h16, X16, e16, E16, A16, D16, -, st16⟩ := newO X15 hx hZ hown (hw _ (List.mem_of_getElem? (i := 74) rfl)) (hw _ (List.mem_of_getElem? (i := 75) rfl)) (hw _ (List.mem_of_getElem? (i := 76) rfl)) e15 (g := (mkF m 147 #[.val (.int p0), .val (.int p1), .val (.int p2), .val (.int p3), .val (.int (1 : Int32)), .val (.ref a), .val (.ref kd), .val (.int ((p3 >>> ((3 : Int32) &&& 31)) &&& (3 : Int32))), .val (.ref fo), .val (.int car), .unset, .unset, .unset, .unset, .unset] [])) rfl (hb hby at_147) (by decide) (by decide)
  obtain ⟨q, g16⟩ : ∃ z, z = T4.heap.size := ⟨_, rfl⟩
  have g_q : n0 ≤ q := Nat.le_trans (Nat.le_trans (Nat.le_of_eq O4.1.symm) O4.2.1) (Nat.le_of_eq g16.symm)
  have ne_x1_q : x1 ≠ q := Nat.ne_of_lt (Nat.lt_of_lt_of_le f4_E_x1.lt (Nat.le_of_eq g16.symm))
  have ne_a_q : a ≠ q := Nat.ne_of_lt (Nat.lt_of_lt_of_le p4_L_a.1.lt (Nat.le_of_eq g16.symm))
  have ne_ea_q : ea ≠ q := Nat.ne_of_lt (Nat.lt_of_lt_of_le (own_AL_lt p4_L_a) (Nat.le_of_eq g16.symm))
  rw [← g16] at A16 D16 st16
  have f16_E_x1 := f4_E_x1.ext E16
  have f16_F_x1_value := f4_F_x1_value.ext E16
  have f16_L_a := p4_L_a.ext E16
  have O16 := O4.ext E16
  have F16_line : Fld Z h16 q "com/example/witnesseth/witnesseth/HeadingLine" "line" "I" (.int (0 : Int32)) := D16 (Or.inr (hw _ (List.mem_of_getElem? (i := 96) rfl))) (ty := .int) (by decide)
  have F16_kind : Fld Z h16 q "com/example/witnesseth/witnesseth/HeadingLine" "kind" "Lcom/example/witnesseth/witnesseth/Heading$Kind;" .null := D16 (Or.inr (hw _ (List.mem_of_getElem? (i := 98) rfl))) (ty := (.object "com/example/witnesseth/witnesseth/Heading$Kind")) (by decide)
  have F16_number : Fld Z h16 q "com/example/witnesseth/witnesseth/HeadingLine" "number" "Ljava/lang/String;" .null := D16 (Or.inr (hw _ (List.mem_of_getElem? (i := 100) rfl))) (ty := (.object "java/lang/String")) (by decide)
  have F16_value : Fld Z h16 q "com/example/witnesseth/witnesseth/HeadingLine" "value" "Ljava/util/List;" .null := D16 (Or.inr (hw _ (List.mem_of_getElem? (i := 102) rfl))) (ty := (.object "java/util/List")) (by decide)
  have F16_rest : Fld Z h16 q "com/example/witnesseth/witnesseth/HeadingLine" "rest" "Ljava/lang/String;" .null := D16 (Or.inr (hw _ (List.mem_of_getElem? (i := 104) rfl))) (ty := (.object "java/lang/String")) (by decide)
  have F16_carriesOn : Fld Z h16 q "com/example/witnesseth/witnesseth/HeadingLine" "carriesOn" "Z" (.int (0 : Int32)) := D16 (Or.inr (hw _ (List.mem_of_getElem? (i := 106) rfl))) (ty := .boolean) (by decide)
  have F16_form : Fld Z h16 q "com/example/witnesseth/witnesseth/HeadingLine" "form" "Lcom/example/witnesseth/witnesseth/HeadingLine$Form;" .null := D16 (Or.inr (hw _ (List.mem_of_getElem? (i := 108) rfl))) (ty := (.object "com/example/witnesseth/witnesseth/HeadingLine$Form")) (by decide)
  have hS := own_since0 s
  have hk : 0 ≤ h16.size := Nat.zero_le _
  obtain ⟨lit17, T17, h17, kk17, X17, e17, E17, hS, hk, hZ, hown, st17⟩ := ldcS (s := s) X16 hx hZ hown (hw _ (List.mem_of_getElem? (i := 77) rfl)) wS e16 hS hk (g := (mkF m 154 #[.val (.int p0), .val (.int p1), .val (.int p2), .val (.int p3), .val (.int (1 : Int32)), .val (.ref a), .val (.ref kd), .val (.int ((p3 >>> ((3 : Int32) &&& 31)) &&& (3 : Int32))), .val (.ref fo), .val (.int car), .unset, .unset, .unset, .unset, .unset] [(.ref kd), (.int p3), (.ref q), (.ref q)])) rfl (hb hby at_154) (n := 4) (by decide) (by decide) (by decide) (by decide)
  have f17_E_x1 := f16_E_x1.ext E17
  have f17_F_x1_value := f16_F_x1_value.ext E17
  have f17_L_a := f16_L_a.ext E17
  have f17_E_q := A16.ext E17
  have f17_F_q_line := F16_line.ext E17
  have f17_F_q_kind := F16_kind.ext E17
  have f17_F_q_number := F16_number.ext E17
  have f17_F_q_value := F16_value.ext E17
  have f17_F_q_rest := F16_rest.ext E17
  have f17_F_q_carriesOn := F16_carriesOn.ext E17
  have f17_F_q_form := F16_form.ext E17
  have O17 := O16.ext E17
  obtain ⟨lit18, T18, h18, kk18, X18, e18, E18, hS, hk, hZ, hown, st18⟩ := ldcS (s := s) X17 hx hZ hown (hw _ (List.mem_of_getElem? (i := 85) rfl)) wS e17 hS hk (g := (mkF m 158 #[.val (.int p0), .val (.int p1), .val (.int p2), .val (.int p3), .val (.int (1 : Int32)), .val (.ref a), .val (.ref kd), .val (.int ((p3 >>> ((3 : Int32) &&& 31)) &&& (3 : Int32))), .val (.ref fo), .val (.int car), .unset, .unset, .unset, .unset, .unset] [(.ref a), (.ref lit17), (.ref kd), (.int p3), (.ref q), (.ref q)])) rfl (hb hby at_158) (n := 0) (by decide) (by decide) (by decide) (by decide)
  have f18_E_x1 := f17_E_x1.ext E18
  have f18_F_x1_value := f17_F_x1_value.ext E18
  have f18_L_a := f17_L_a.ext E18
  have f18_E_q := f17_E_q.ext E18
  have f18_F_q_line := f17_F_q_line.ext E18
  have f18_F_q_kind := f17_F_q_kind.ext E18
  have f18_F_q_number := f17_F_q_number.ext E18
  have f18_F_q_value := f17_F_q_value.ext E18
  have f18_F_q_rest := f17_F_q_rest.ext E18
  have f18_F_q_carriesOn := f17_F_q_carriesOn.ext E18
  have f18_F_q_form := f17_F_q_form.ext E18
  have O18 := O17.ext E18
  obtain ⟨_, _, ⟨T19, L19, k19, n19⟩, -, X19, ⟨Lc19, hQ19, l19, y19, z19⟩, st19⟩ := X18.specialBack hx (y := (⟨"com/example/witnesseth/witnesseth/HeadingLine", "<init>", "(ILcom/example/witnesseth/witnesseth/Heading$Kind;Ljava/lang/String;Ljava/util/List;Ljava/lang/String;ZLcom/example/witnesseth/witnesseth/HeadingLine$Form;)V"⟩ : MethodName)) rfl hown (mvT hZ (hw _ (List.mem_of_getElem? (i := 86) rfl))) (mvT hZ (hw _ (List.mem_of_getElem? (i := 87) rfl))) (mvT hZ (hw _ (List.mem_of_getElem? (i := 88) rfl))) (by decide) (backOf (W := 1) (own_hi l Z a0 hw [] q p3 kd lit17 a lit18 car fo h18 n0 O18  f18_E_q f18_F_q_line f18_F_q_kind f18_F_q_number f18_F_q_value f18_F_q_rest f18_F_q_carriesOn f18_F_q_form g_q) hZ (hw _ (List.mem_of_getElem? (i := 88) rfl)) (hw _ (List.mem_of_getElem? (i := 76) rfl)) (by decide) (by decide)) (g := (mkF m 164 #[.val (.int p0), .val (.int p1), .val (.int p2), .val (.int p3), .val (.int (1 : Int32)), .val (.ref a), .val (.ref kd), .val (.int ((p3 >>> ((3 : Int32) &&& 31)) &&& (3 : Int32))), .val (.ref fo), .val (.int car), .unset, .unset, .unset, .unset, .unset] [(.ref fo), (.int car), (.ref lit18), (.ref a), (.ref lit17), (.ref kd), (.int p3), (.ref q), (.ref q)])) rfl (by rw [hml]; rfl) (Steps.refl _) (a := q) (argsL := [(.int p3), (.ref kd), (.ref lit17), (.ref a), (.ref lit18), (.int car), (.ref fo)]) (rest := [(.ref q)]) (lenOf own_pd11 rfl) rfl (by show 2 * 0 + _ ≤ _; exact Nat.le_of_eq rfl) (hb hby at_164) (fun _ _ => ⟨rfl, e18, (by decide : 8 + 0 ≤ _), (by decide : 33 + 0 ≤ _)⟩)
  dsimp only [Pt.U, Pt.locs, Pt.cells, Pt.slots] at X19 l19 y19 z19 st19 hQ19
  subst l19 y19 z19
  obtain ⟨rfl, N19q, O19, K19, p19_E_q, p19_F_q_kind, p19_F_q_value⟩ := hQ19
  have N19 := Fr.app N4 N19q
  have f19_E_x1 := f18_E_x1.keep K19
  have f19_F_x1_value := f18_F_x1_value.keep K19 (ninS ne_x1_q nin0)
  have f19_L_a := own_AL_keep f18_L_a K19 (ninS ne_a_q nin0) (ninS ne_ea_q nin0)
  have hk := Nat.le_trans hk K19.1
  obtain ⟨T20, art, hv20, ⟨X20, e20⟩, st20⟩ : ∃ (T' : State) (art : Int32), ((((p3 >>> ((6 : Int32) &&& 31)) &&& (1 : Int32)) = (0 : Int32) ∧ art = p1) ∨ (¬ (((p3 >>> ((6 : Int32) &&& 31)) &&& (1 : Int32)) = (0 : Int32)) ∧ art = p0)) ∧ own_Go X19 T19.heap T' ∧ ∀ target, Steps p.tables e below (T'.setTop (mkF m 183 #[.val (.int p0), .val (.int p1), .val (.int p2), .val (.int p3), .val (.int (1 : Int32)), .val (.ref a), .val (.ref kd), .val (.int ((p3 >>> ((3 : Int32) &&& 31)) &&& (3 : Int32))), .val (.ref fo), .val (.int car), .val (.ref q), .unset, .unset, .unset, .unset] [(.int art)])) target → Steps p.tables e below (T19.setTop (mkF m 175 #[.val (.int p0), .val (.int p1), .val (.int p2), .val (.int p3), .val (.int (1 : Int32)), .val (.ref a), .val (.ref kd), .val (.int ((p3 >>> ((3 : Int32) &&& 31)) &&& (3 : Int32))), .val (.ref fo), .val (.int car), .val (.ref q), .unset, .unset, .unset, .unset] [(.int ((p3 >>> ((6 : Int32) &&& 31)) &&& (1 : Int32)))])) target := by
    by_cases hf20 : ((p3 >>> ((6 : Int32) &&& 31)) &&& (1 : Int32)) = (0 : Int32)
    · refine ⟨T19, p1, Or.inl ⟨hf20, rfl⟩, ⟨X19, rfl⟩, fun target kgo_ => ?_⟩
      show Steps p.tables e below (T19.setTop (mkF m 175 #[.val (.int p0), .val (.int p1), .val (.int p2), .val (.int p3), .val (.int (1 : Int32)), .val (.ref a), .val (.ref kd), .val (.int ((p3 >>> ((3 : Int32) &&& 31)) &&& (3 : Int32))), .val (.ref fo), .val (.int car), .val (.ref q), .unset, .unset, .unset, .unset] [(.int ((p3 >>> ((6 : Int32) &&& 31)) &&& (1 : Int32)))])) _
      refine XS.ifYes X19.here hx rfl (pc0 := 175) (pc' := 182) rfl (hb hby at_175) rfl ((if0 _ _).trans (teq hf20).1) (by decide) (by decide) ?_
      show Steps p.tables e below (T19.setTop (mkF m 182 #[.val (.int p0), .val (.int p1), .val (.int p2), .val (.int p3), .val (.int (1 : Int32)), .val (.ref a), .val (.ref kd), .val (.int ((p3 >>> ((3 : Int32) &&& 31)) &&& (3 : Int32))), .val (.ref fo), .val (.int car), .val (.ref q), .unset, .unset, .unset, .unset] [])) _
      refine XS.iloadN X19.here hx rfl (hb hby at_182) rfl ?_
      show Steps p.tables e below (T19.setTop (mkF m 183 #[.val (.int p0), .val (.int p1), .val (.int p2), .val (.int p3), .val (.int (1 : Int32)), .val (.ref a), .val (.ref kd), .val (.int ((p3 >>> ((3 : Int32) &&& 31)) &&& (3 : Int32))), .val (.ref fo), .val (.int car), .val (.ref q), .unset, .unset, .unset, .unset] [(.int p1)])) _
      exact kgo_
    · refine ⟨T19, p0, Or.inr ⟨hf20, rfl⟩, ⟨X19, rfl⟩, fun target kgo_ => ?_⟩
      show Steps p.tables e below (T19.setTop (mkF m 175 #[.val (.int p0), .val (.int p1), .val (.int p2), .val (.int p3), .val (.int (1 : Int32)), .val (.ref a), .val (.ref kd), .val (.int ((p3 >>> ((3 : Int32) &&& 31)) &&& (3 : Int32))), .val (.ref fo), .val (.int car), .val (.ref q), .unset, .unset, .unset, .unset] [(.int ((p3 >>> ((6 : Int32) &&& 31)) &&& (1 : Int32)))])) _
      refine XS.ifNo X19.here hx rfl (hb hby at_175) rfl ((if0 _ _).trans (feq hf20).1) ?_
      show Steps p.tables e below (T19.setTop (mkF m 178 #[.val (.int p0), .val (.int p1), .val (.int p2), .val (.int p3), .val (.int (1 : Int32)), .val (.ref a), .val (.ref kd), .val (.int ((p3 >>> ((3 : Int32) &&& 31)) &&& (3 : Int32))), .val (.ref fo), .val (.int car), .val (.ref q), .unset, .unset, .unset, .unset] [])) _
      refine XS.iloadN X19.here hx rfl (hb hby at_178) rfl ?_
      show Steps p.tables e below (T19.setTop (mkF m 179 #[.val (.int p0), .val (.int p1), .val (.int p2), .val (.int p3), .val (.int (1 : Int32)), .val (.ref a), .val (.ref kd), .val (.int ((p3 >>> ((3 : Int32) &&& 31)) &&& (3 : Int32))), .val (.ref fo), .val (.int car), .val (.ref q), .unset, .unset, .unset, .unset] [(.int p0)])) _
      refine XS.goto X19.here hx rfl (pc0 := 179) (pc' := 183) rfl (hb hby at_179) (by decide) (by decide) ?_
      show Steps p.tables e below (T19.setTop (mkF m 183 #[.val (.int p0), .val (.int p1), .val (.int p2), .val (.int p3), .val (.int (1 : Int32)), .val (.ref a), .val (.ref kd), .val (.int ((p3 >>> ((3 : Int32) &&& 31)) &&& (3 : Int32))), .val (.ref fo), .val (.int car), .val (.ref q), .unset, .unset, .unset, .unset] [(.int p0)])) _
      exact kgo_
  obtain ⟨T21, h21, X21, e21, E21, A21, D21, -, st21⟩ := newO X20 hx hZ hown (hw _ (List.mem_of_getElem? (i := 0) rfl)) (hw _ (List.mem_of_getElem? (i := 1) rfl)) (hw _ (List.mem_of_getElem? (i := 2) rfl)) e20 (g := (mkF m 185 #[.val (.int p0), .val (.int p1), .val (.int p2), .val (.int p3), .val (.int (1 : Int32)), .val (.ref a), .val (.ref kd), .val (.int ((p3 >>> ((3 : Int32) &&& 31)) &&& (3 : Int32))), .val (.ref fo), .val (.int car), .val (.ref q), .val (.int art), .unset, .unset, .unset] [])) rfl (hb hby at_185) (by decide) (by decide)
  obtain ⟨a2, g21⟩ : ∃ z, z = T19.heap.size := ⟨_, rfl⟩
  have g_a2 : n0 ≤ a2 := Nat.le_trans (Nat.le_trans (Nat.le_of_eq O19.1.symm) O19.2.1) (Nat.le_of_eq g21.symm)
  have ne_x1_a2 : x1 ≠ a2 := Nat.ne_of_lt (Nat.lt_of_lt_of_le f19_E_x1.lt (Nat.le_of_eq g21.symm))
  have ne_a_a2 : a ≠ a2 := Nat.ne_of_lt (Nat.lt_of_lt_of_le f19_L_a.1.lt (Nat.le_of_eq g21.symm))
  have ne_ea_a2 : ea ≠ a2 := Nat.ne_of_lt (Nat.lt_of_lt_of_le (own_AL_lt f19_L_a) (Nat.le_of_eq g21.symm))
  have ne_q_a2 : q ≠ a2 := Nat.ne_of_lt (Nat.lt_of_lt_of_le p19_E_q.lt (Nat.le_of_eq g21.symm))
  rw [← g21] at A21 D21 st21
  have f21_E_x1 := f19_E_x1.ext E21
  have f21_F_x1_value := f19_F_x1_value.ext E21
  have f21_L_a := f19_L_a.ext E21
  have f21_E_q := p19_E_q.ext E21
  have f21_F_q_kind := p19_F_q_kind.ext E21
  have f21_F_q_value := p19_F_q_value.ext E21
  have hk := Nat.le_trans hk E21.1
  have O21 := O19.ext E21
  have F21_modCount : Fld Z h21 a2 "java/util/AbstractList" "modCount" "I" (.int (0 : Int32)) := D21 (Or.inl (hw _ (List.mem_of_getElem? (i := 22) rfl))) (ty := .int) (by decide)
  have F21_elementData : Fld Z h21 a2 "java/util/ArrayList" "elementData" "[Ljava/lang/Object;" .null := D21 (Or.inl (hw _ (List.mem_of_getElem? (i := 25) rfl))) (ty := (.array (.object "java/lang/Object"))) (by decide)
  have F21_size : Fld Z h21 a2 "java/util/ArrayList" "size" "I" (.int (0 : Int32)) := D21 (Or.inl (hw _ (List.mem_of_getElem? (i := 45) rfl))) (ty := .int) (by decide)
  obtain ⟨_, _, ⟨T22, L22, k22, n22⟩, -, X22, ⟨Lc22, hQ22, l22, y22, z22⟩, st22⟩ := X21.specialBack hx (y := (⟨"java/util/ArrayList", "<init>", "()V"⟩ : MethodName)) rfl hown (mvT hZ (hw _ (List.mem_of_getElem? (i := 3) rfl))) (mvT hZ (hw _ (List.mem_of_getElem? (i := 4) rfl))) (mvT hZ (hw _ (List.mem_of_getElem? (i := 5) rfl))) (by decide) (backOf (W := 1) (own_ali l Z a0 hw [] a2 D cD ich icc kA kS f0 f1 f2 f3 h21 n0 O21 K A21 F21_modCount F21_elementData F21_size g_a2) hZ (hw _ (List.mem_of_getElem? (i := 5) rfl)) (hw _ (List.mem_of_getElem? (i := 2) rfl)) (by decide) (by decide)) (g := (mkF m 189 #[.val (.int p0), .val (.int p1), .val (.int p2), .val (.int p3), .val (.int (1 : Int32)), .val (.ref a), .val (.ref kd), .val (.int ((p3 >>> ((3 : Int32) &&& 31)) &&& (3 : Int32))), .val (.ref fo), .val (.int car), .val (.ref q), .val (.int art), .unset, .unset, .unset] [(.ref a2), (.ref a2)])) rfl (by rw [hml]; rfl) (Steps.refl _) (a := a2) (argsL := []) (rest := [(.ref a2)]) (lenOf own_pd0 rfl) rfl (by show 2 * 0 + _ ≤ _; exact Nat.le_of_eq rfl) (hb hby at_189) (fun _ _ => ⟨rfl, e21, (by decide : 9 + 0 ≤ _), (by decide : 36 + 0 ≤ _)⟩)
  dsimp only [Pt.U, Pt.locs, Pt.cells, Pt.slots] at X22 l22 y22 z22 st22 hQ22
  subst l22 y22 z22
  obtain ⟨rfl, N22q, O22, K22, p22_E_a, p22_F_a_modCount, p22_F_a_elementData, p22_F_a_size⟩ := hQ22
  have N22 := Fr.app N19 N22q
  have f22_E_x1 := f21_E_x1.keep K22
  have f22_F_x1_value := f21_F_x1_value.keep K22 (ninS ne_x1_a2 nin0)
  have f22_L_a := own_AL_keep f21_L_a K22 (ninS ne_a_a2 nin0) (ninS ne_ea_a2 nin0)
  have f22_E_q := f21_E_q.keep K22
  have f22_F_q_kind := f21_F_q_kind.keep K22 (ninS ne_q_a2 nin0)
  have f22_F_q_value := f21_F_q_value.keep K22 (ninS ne_q_a2 nin0)
  have hk := Nat.le_trans hk K22.1
  obtain ⟨_, _, ⟨T23, L23, k23, n23⟩, -, X23, ⟨Lc23, hQ23, l23, y23, z23⟩, st23⟩ := Jvm.LawKit.callS X22 hx (y := (⟨"java/lang/Integer", "valueOf", "(I)Ljava/lang/Integer;"⟩ : MethodName)) hown (mvT hZ (hw _ (List.mem_of_getElem? (i := 26) rfl))) (mvT hZ (hw _ (List.mem_of_getElem? (i := 27) rfl))) (mvT hZ (hw _ (List.mem_of_getElem? (i := 28) rfl))) (mvT hZ (hw _ (List.mem_of_getElem? (i := 29) rfl))) (by decide) (backOf (W := 1) (own_val l Z a0 hw [] art D cD ich icc kA kS f0 f1 f2 f3 T22.heap n0 O22 K ) hZ (hw _ (List.mem_of_getElem? (i := 29) rfl)) (hw _ (List.mem_of_getElem? (i := 28) rfl)) (by decide) (by decide)) (g := (mkF m 198 #[.val (.int p0), .val (.int p1), .val (.int p2), .val (.int p3), .val (.int (1 : Int32)), .val (.ref a), .val (.ref kd), .val (.int ((p3 >>> ((3 : Int32) &&& 31)) &&& (3 : Int32))), .val (.ref fo), .val (.int car), .val (.ref q), .val (.int art), .val (.ref a2), .unset, .unset] [(.int art), (.ref a2)])) rfl (by rw [hml]; rfl) (argsL := [(.int art)]) (rest := [(.ref a2)]) (lenOf own_pd9 rfl) rfl (by show 2 * 0 + _ ≤ _; exact Nat.le_of_eq rfl) (hb hby at_198) (fun _ _ => ⟨rfl, rfl, (by decide : 9 + 1 ≤ _), (by decide : 36 + 1 ≤ _)⟩)
  dsimp only [Pt.U, Pt.locs, Pt.cells, Pt.slots] at X23 l23 y23 z23 st23 hQ23
  subst l23 y23 z23
  obtain ⟨x2, rfl, N23q, O23, K23, p23_E_r, p23_F_r_value⟩ := hQ23
  have N23 := Fr.app N22 N23q
  have f23_E_x1 := f22_E_x1.keep K23
  have f23_F_x1_value := f22_F_x1_value.keep K23 nin0
  have f23_L_a := own_AL_keep f22_L_a K23 nin0 nin0
  have f23_E_q := f22_E_q.keep K23
  have f23_F_q_kind := f22_F_q_kind.keep K23 nin0
  have f23_F_q_value := f22_F_q_value.keep K23 nin0
  have f23_E_a2 := p22_E_a.keep K23
  have f23_F_a2_modCount := p22_F_a_modCount.keep K23 nin0
  have f23_F_a2_elementData := p22_F_a_elementData.keep K23 nin0
  have f23_F_a2_size := p22_F_a_size.keep K23 nin0
  have hk := Nat.le_trans hk K23.1
  have ne_x2_a : x2 ≠ a := ne_exa p23_E_r f23_L_a.1 (by decide)
  have ne_x2_ea : x2 ≠ ea := own_neEA p23_E_r (hw _ (List.mem_of_getElem? (i := 156) rfl)) f23_L_a
  have ne_x2_q : x2 ≠ q := ne_exa p23_E_r f23_E_q (by decide)
  have ne_x2_a2 : x2 ≠ a2 := ne_exa p23_E_r f23_E_a2 (by decide)
  obtain ⟨cq24, kq24, q24a, q24b, q24c⟩ := isOf hZ rfl f23_E_a2
  obtain ⟨_, _, ⟨T24, L24, k24, n24⟩, -, X24, ⟨Lc24, hQ24, l24, y24, z24⟩, st24⟩ := X23.interfaceBack hx (xi := (⟨"java/util/List", "add", "(Ljava/lang/Object;)Z"⟩ : MethodName)) (y := (⟨"java/util/ArrayList", "add", "(Ljava/lang/Object;)Z"⟩ : MethodName)) hown (mvT hZ (hw _ (List.mem_of_getElem? (i := 33) rfl))) (mvT hZ (hw _ (List.mem_of_getElem? (i := 34) rfl))) (mvT hZ (hw _ (List.mem_of_getElem? (i := 35) rfl))) (mvT hZ (hw _ (List.mem_of_getElem? (i := 36) rfl))) (mvT hZ (hw _ (List.mem_of_getElem? (i := 37) rfl))) (mvT hZ (hw _ (List.mem_of_getElem? (i := 38) rfl))) (mvT hZ (hw _ (List.mem_of_getElem? (i := 39) rfl))) (mvT hZ (hw _ (List.mem_of_getElem? (i := 40) rfl))) (by decide) (backOf (W := 0) (own_add l Z a0 hw [] a2 x2 D cD ich icc kA kS f0 f1 f2 f3 T23.heap n0 O23 K f23_E_a2 f23_F_a2_modCount f23_F_a2_elementData f23_F_a2_size g_a2 (Ins.of_exa p23_E_r (hw _ (List.mem_of_getElem? (i := 67) rfl)))) hZ (hw _ (List.mem_of_getElem? (i := 41) rfl)) (hw _ (List.mem_of_getElem? (i := 2) rfl)) (by decide) (by decide)) q24a q24b q24c (g := (mkF m 201 #[.val (.int p0), .val (.int p1), .val (.int p2), .val (.int p3), .val (.int (1 : Int32)), .val (.ref a), .val (.ref kd), .val (.int ((p3 >>> ((3 : Int32) &&& 31)) &&& (3 : Int32))), .val (.ref fo), .val (.int car), .val (.ref q), .val (.int art), .val (.ref a2), .unset, .unset] [(.ref x2), (.ref a2)])) rfl (by rw [hml]; rfl) (Steps.refl _) (argsL := [(.ref x2)]) (rest := []) (lenOf own_pd10 rfl) rfl (by show 2 * 0 + _ ≤ _; exact Nat.le_of_eq rfl) (hb hby at_201) (fun _ _ => ⟨rfl, rfl, (by decide : 10 + 1 ≤ _), (by decide : 37 + 10 ≤ _)⟩)
  dsimp only [Pt.U, Pt.locs, Pt.cells, Pt.slots] at X24 l24 y24 z24 st24 hQ24
  subst l24 y24 z24
  obtain ⟨ea2, rfl, N24q, O24, K24, p24_L_a, p24_fresh_ea⟩ := hQ24
  have N24 := Fr.app N23 N24q
  have ne_x1_ea2 : x1 ≠ ea2 := Nat.ne_of_lt (Nat.lt_of_lt_of_le f23_E_x1.lt p24_fresh_ea)
  have ne_a_ea2 : a ≠ ea2 := Nat.ne_of_lt (Nat.lt_of_lt_of_le f23_L_a.1.lt p24_fresh_ea)
  have ne_ea_ea2 : ea ≠ ea2 := Nat.ne_of_lt (Nat.lt_of_lt_of_le (own_AL_lt f23_L_a) p24_fresh_ea)
  have ne_q_ea2 : q ≠ ea2 := Nat.ne_of_lt (Nat.lt_of_lt_of_le f23_E_q.lt p24_fresh_ea)
  have ne_a2_ea2 : a2 ≠ ea2 := Nat.ne_of_lt (Nat.lt_of_lt_of_le f23_E_a2.lt p24_fresh_ea)
  have ne_x2_ea2 : x2 ≠ ea2 := Nat.ne_of_lt (Nat.lt_of_lt_of_le p23_E_r.lt p24_fresh_ea)
  have g_ea2 : n0 ≤ ea2 := Nat.le_trans (Nat.le_trans (Nat.le_of_eq O23.1.symm) O23.2.1) p24_fresh_ea
  have f24_E_x1 := f23_E_x1.keep K24
  have f24_F_x1_value := f23_F_x1_value.keep K24 (ninS ne_x1_a2 nin0)
  have f24_L_a := own_AL_keep f23_L_a K24 (ninS ne_a_a2 nin0) (ninS ne_ea_a2 nin0)
  have f24_E_q := f23_E_q.keep K24
  have f24_F_q_kind := f23_F_q_kind.keep K24 (ninS ne_q_a2 nin0)
  have f24_F_q_value := f23_F_q_value.keep K24 (ninS ne_q_a2 nin0)
  have f24_E_x2 := p23_E_r.keep K24
  have f24_F_x2_value := p23_F_r_value.keep K24 (ninS ne_x2_a2 nin0)
  have hk := Nat.le_trans hk K24.1
  obtain ⟨T25, h25, X25, e25, E25, A25, D25, -, st25⟩ := newO X24 hx hZ hown (hw _ (List.mem_of_getElem? (i := 74) rfl)) (hw _ (List.mem_of_getElem? (i := 75) rfl)) (hw _ (List.mem_of_getElem? (i := 76) rfl)) rfl (g := (mkF m 207 #[.val (.int p0), .val (.int p1), .val (.int p2), .val (.int p3), .val (.int (1 : Int32)), .val (.ref a), .val (.ref kd), .val (.int ((p3 >>> ((3 : Int32) &&& 31)) &&& (3 : Int32))), .val (.ref fo), .val (.int car), .val (.ref q), .val (.int art), .val (.ref a2), .unset, .unset] [])) rfl (hb hby at_207) (by decide) (by decide)
  obtain ⟨q2, g25⟩ : ∃ z, z = T24.heap.size := ⟨_, rfl⟩
  have g_q2 : n0 ≤ q2 := Nat.le_trans (Nat.le_trans (Nat.le_of_eq O24.1.symm) O24.2.1) (Nat.le_of_eq g25.symm)
  have ne_x1_q2 : x1 ≠ q2 := Nat.ne_of_lt (Nat.lt_of_lt_of_le f24_E_x1.lt (Nat.le_of_eq g25.symm))
  have ne_a_q2 : a ≠ q2 := Nat.ne_of_lt (Nat.lt_of_lt_of_le f24_L_a.1.lt (Nat.le_of_eq g25.symm))
  have ne_ea_q2 : ea ≠ q2 := Nat.ne_of_lt (Nat.lt_of_lt_of_le (own_AL_lt f24_L_a) (Nat.le_of_eq g25.symm))
  have ne_q_q2 : q ≠ q2 := Nat.ne_of_lt (Nat.lt_of_lt_of_le f24_E_q.lt (Nat.le_of_eq g25.symm))
  have ne_x2_q2 : x2 ≠ q2 := Nat.ne_of_lt (Nat.lt_of_lt_of_le f24_E_x2.lt (Nat.le_of_eq g25.symm))
  have ne_a2_q2 : a2 ≠ q2 := Nat.ne_of_lt (Nat.lt_of_lt_of_le p24_L_a.1.lt (Nat.le_of_eq g25.symm))
  have ne_ea2_q2 : ea2 ≠ q2 := Nat.ne_of_lt (Nat.lt_of_lt_of_le (own_AL_lt p24_L_a) (Nat.le_of_eq g25.symm))
  rw [← g25] at A25 D25 st25
  have f25_E_x1 := f24_E_x1.ext E25
  have f25_F_x1_value := f24_F_x1_value.ext E25
  have f25_L_a := f24_L_a.ext E25
  have f25_E_q := f24_E_q.ext E25
  have f25_F_q_kind := f24_F_q_kind.ext E25
  have f25_F_q_value := f24_F_q_value.ext E25
  have f25_E_x2 := f24_E_x2.ext E25
  have f25_F_x2_value := f24_F_x2_value.ext E25
  have f25_L_a2 := p24_L_a.ext E25
  have hk := Nat.le_trans hk E25.1
  have O25 := O24.ext E25
  have F25_line : Fld Z h25 q2 "com/example/witnesseth/witnesseth/HeadingLine" "line" "I" (.int (0 : Int32)) := D25 (Or.inr (hw _ (List.mem_of_getElem? (i := 96) rfl))) (ty := .int) (by decide)
  have F25_kind : Fld Z h25 q2 "com/example/witnesseth/witnesseth/HeadingLine" "kind" "Lcom/example/witnesseth/witnesseth/Heading$Kind;" .null := D25 (Or.inr (hw _ (List.mem_of_getElem? (i := 98) rfl))) (ty := (.object "com/example/witnesseth/witnesseth/Heading$Kind")) (by decide)
  have F25_number : Fld Z h25 q2 "com/example/witnesseth/witnesseth/HeadingLine" "number" "Ljava/lang/String;" .null := D25 (Or.inr (hw _ (List.mem_of_getElem? (i := 100) rfl))) (ty := (.object "java/lang/String")) (by decide)
  have F25_value : Fld Z h25 q2 "com/example/witnesseth/witnesseth/HeadingLine" "value" "Ljava/util/List;" .null := D25 (Or.inr (hw _ (List.mem_of_getElem? (i := 102) rfl))) (ty := (.object "java/util/List")) (by decide)
  have F25_rest : Fld Z h25 q2 "com/example/witnesseth/witnesseth/HeadingLine" "rest" "Ljava/lang/String;" .null := D25 (Or.inr (hw _ (List.mem_of_getElem? (i := 104) rfl))) (ty := (.object "java/lang/String")) (by decide)
  have F25_carriesOn : Fld Z h25 q2 "com/example/witnesseth/witnesseth/HeadingLine" "carriesOn" "Z" (.int (0 : Int32)) := D25 (Or.inr (hw _ (List.mem_of_getElem? (i := 106) rfl))) (ty := .boolean) (by decide)
  have F25_form : Fld Z h25 q2 "com/example/witnesseth/witnesseth/HeadingLine" "form" "Lcom/example/witnesseth/witnesseth/HeadingLine$Form;" .null := D25 (Or.inr (hw _ (List.mem_of_getElem? (i := 108) rfl))) (ty := (.object "com/example/witnesseth/witnesseth/HeadingLine$Form")) (by decide)
  obtain ⟨T26, X26, e26, st26⟩ := getS2 X25 hx hZ hown (host := "") (Or.inl (hw _ (List.mem_of_getElem? (i := 68) rfl))) Via.refl e25 (SA.ext O25.2) (g := (mkF m 212 #[.val (.int p0), .val (.int p1), .val (.int p2), .val (.int p3), .val (.int (1 : Int32)), .val (.ref a), .val (.ref kd), .val (.int ((p3 >>> ((3 : Int32) &&& 31)) &&& (3 : Int32))), .val (.ref fo), .val (.int car), .val (.ref q), .val (.int art), .val (.ref a2), .unset, .unset] [(.int (1 : Int32)), (.ref q2), (.ref q2)])) rfl (hb hby at_212)
  obtain ⟨lit27, T27, h27, kk27, X27, e27, E27, hS, hk, hZ, hown, st27⟩ := ldcS (s := s) X26 hx hZ hown (hw _ (List.mem_of_getElem? (i := 77) rfl)) wS e26 hS hk (g := (mkF m 215 #[.val (.int p0), .val (.int p1), .val (.int p2), .val (.int p3), .val (.int (1 : Int32)), .val (.ref a), .val (.ref kd), .val (.int ((p3 >>> ((3 : Int32) &&& 31)) &&& (3 : Int32))), .val (.ref fo), .val (.int car), .val (.ref q), .val (.int art), .val (.ref a2), .unset, .unset] [(.ref kA), (.int (1 : Int32)), (.ref q2), (.ref q2)])) rfl (hb hby at_215) (n := 4) (by decide) (by decide) (by decide) (by decide)
  have f27_E_x1 := f25_E_x1.ext E27
  have f27_F_x1_value := f25_F_x1_value.ext E27
  have f27_L_a := f25_L_a.ext E27
  have f27_E_q := f25_E_q.ext E27
  have f27_F_q_kind := f25_F_q_kind.ext E27
  have f27_F_q_value := f25_F_q_value.ext E27
  have f27_E_x2 := f25_E_x2.ext E27
  have f27_F_x2_value := f25_F_x2_value.ext E27
  have f27_L_a2 := f25_L_a2.ext E27
  have f27_E_q2 := A25.ext E27
  have f27_F_q2_line := F25_line.ext E27
  have f27_F_q2_kind := F25_kind.ext E27
  have f27_F_q2_number := F25_number.ext E27
  have f27_F_q2_value := F25_value.ext E27
  have f27_F_q2_rest := F25_rest.ext E27
  have f27_F_q2_carriesOn := F25_carriesOn.ext E27
  have f27_F_q2_form := F25_form.ext E27
  have O27 := O25.ext E27
  obtain ⟨lit28, T28, h28, kk28, X28, e28, E28, hS, hk, hZ, hown, st28⟩ := ldcS (s := s) X27 hx hZ hown (hw _ (List.mem_of_getElem? (i := 85) rfl)) wS e27 hS hk (g := (mkF m 219 #[.val (.int p0), .val (.int p1), .val (.int p2), .val (.int p3), .val (.int (1 : Int32)), .val (.ref a), .val (.ref kd), .val (.int ((p3 >>> ((3 : Int32) &&& 31)) &&& (3 : Int32))), .val (.ref fo), .val (.int car), .val (.ref q), .val (.int art), .val (.ref a2), .unset, .unset] [(.ref a2), (.ref lit27), (.ref kA), (.int (1 : Int32)), (.ref q2), (.ref q2)])) rfl (hb hby at_219) (n := 0) (by decide) (by decide) (by decide) (by decide)
  have f28_E_x1 := f27_E_x1.ext E28
  have f28_F_x1_value := f27_F_x1_value.ext E28
  have f28_L_a := f27_L_a.ext E28
  have f28_E_q := f27_E_q.ext E28
  have f28_F_q_kind := f27_F_q_kind.ext E28
  have f28_F_q_value := f27_F_q_value.ext E28
  have f28_E_x2 := f27_E_x2.ext E28
  have f28_F_x2_value := f27_F_x2_value.ext E28
  have f28_L_a2 := f27_L_a2.ext E28
  have f28_E_q2 := f27_E_q2.ext E28
  have f28_F_q2_line := f27_F_q2_line.ext E28
  have f28_F_q2_kind := f27_F_q2_kind.ext E28
  have f28_F_q2_number := f27_F_q2_number.ext E28
  have f28_F_q2_value := f27_F_q2_value.ext E28
  have f28_F_q2_rest := f27_F_q2_rest.ext E28
  have f28_F_q2_carriesOn := f27_F_q2_carriesOn.ext E28
  have f28_F_q2_form := f27_F_q2_form.ext E28
  have O28 := O27.ext E28
  obtain ⟨T29, X29, e29, st29⟩ := getS2 X28 hx hZ hown (host := "") (Or.inl (hw _ (List.mem_of_getElem? (i := 71) rfl))) Via.refl e28 (S0.ext O28.2) (g := (mkF m 222 #[.val (.int p0), .val (.int p1), .val (.int p2), .val (.int p3), .val (.int (1 : Int32)), .val (.ref a), .val (.ref kd), .val (.int ((p3 >>> ((3 : Int32) &&& 31)) &&& (3 : Int32))), .val (.ref fo), .val (.int car), .val (.ref q), .val (.int art), .val (.ref a2), .unset, .unset] [(.int (0 : Int32)), (.ref lit28), (.ref a2), (.ref lit27), (.ref kA), (.int (1 : Int32)), (.ref q2), (.ref q2)])) rfl (hb hby at_222)
  obtain ⟨_, _, ⟨T30, L30, k30, n30⟩, -, X30, ⟨Lc30, hQ30, l30, y30, z30⟩, st30⟩ := X29.specialBack hx (y := (⟨"com/example/witnesseth/witnesseth/HeadingLine", "<init>", "(ILcom/example/witnesseth/witnesseth/Heading$Kind;Ljava/lang/String;Ljava/util/List;Ljava/lang/String;ZLcom/example/witnesseth/witnesseth/HeadingLine$Form;)V"⟩ : MethodName)) rfl hown (mvT hZ (hw _ (List.mem_of_getElem? (i := 86) rfl))) (mvT hZ (hw _ (List.mem_of_getElem? (i := 87) rfl))) (mvT hZ (hw _ (List.mem_of_getElem? (i := 88) rfl))) (by decide) (backOf (W := 1) (own_hi l Z a0 hw [] q2 (1 : Int32) kA lit27 a2 lit28 (0 : Int32) f0 h28 n0 O28  f28_E_q2 f28_F_q2_line f28_F_q2_kind f28_F_q2_number f28_F_q2_value f28_F_q2_rest f28_F_q2_carriesOn f28_F_q2_form g_q2) hZ (hw _ (List.mem_of_getElem? (i := 88) rfl)) (hw _ (List.mem_of_getElem? (i := 76) rfl)) (by decide) (by decide)) (g := (mkF m 225 #[.val (.int p0), .val (.int p1), .val (.int p2), .val (.int p3), .val (.int (1 : Int32)), .val (.ref a), .val (.ref kd), .val (.int ((p3 >>> ((3 : Int32) &&& 31)) &&& (3 : Int32))), .val (.ref fo), .val (.int car), .val (.ref q), .val (.int art), .val (.ref a2), .unset, .unset] [(.ref f0), (.int (0 : Int32)), (.ref lit28), (.ref a2), (.ref lit27), (.ref kA), (.int (1 : Int32)), (.ref q2), (.ref q2)])) rfl (by rw [hml]; rfl) (Steps.refl _) (a := q2) (argsL := [(.int (1 : Int32)), (.ref kA), (.ref lit27), (.ref a2), (.ref lit28), (.int (0 : Int32)), (.ref f0)]) (rest := [(.ref q2)]) (lenOf own_pd11 rfl) rfl (by show 2 * 0 + _ ≤ _; exact Nat.le_of_eq rfl) (hb hby at_225) (fun _ _ => ⟨rfl, e29, (by decide : 16 + 0 ≤ _), (by decide : 66 + 0 ≤ _)⟩)
  dsimp only [Pt.U, Pt.locs, Pt.cells, Pt.slots] at X30 l30 y30 z30 st30 hQ30
  subst l30 y30 z30
  obtain ⟨rfl, N30q, O30, K30, p30_E_q, p30_F_q_kind, p30_F_q_value⟩ := hQ30
  have N30 := Fr.app N24 N30q
  have f30_E_x1 := f28_E_x1.keep K30
  have f30_F_x1_value := f28_F_x1_value.keep K30 (ninS ne_x1_q2 nin0)
  have f30_L_a := own_AL_keep f28_L_a K30 (ninS ne_a_q2 nin0) (ninS ne_ea_q2 nin0)
  have f30_E_q := f28_E_q.keep K30
  have f30_F_q_kind := f28_F_q_kind.keep K30 (ninS ne_q_q2 nin0)
  have f30_F_q_value := f28_F_q_value.keep K30 (ninS ne_q_q2 nin0)
  have f30_E_x2 := f28_E_x2.keep K30
  have f30_F_x2_value := f28_F_x2_value.keep K30 (ninS ne_x2_q2 nin0)
  have f30_L_a2 := own_AL_keep f28_L_a2 K30 (ninS ne_a2_q2 nin0) (ninS ne_ea2_q2 nin0)
  have hk := Nat.le_trans hk K30.1
  obtain ⟨T31, X31, e31, st31⟩ := getS2 X30 hx hZ hown (host := "") (Or.inl (hw _ (List.mem_of_getElem? (i := 109) rfl))) Via.refl rfl (SS.ext O30.2) (g := (mkF m 232 #[.val (.int p0), .val (.int p1), .val (.int p2), .val (.int p3), .val (.int (1 : Int32)), .val (.ref a), .val (.ref kd), .val (.int ((p3 >>> ((3 : Int32) &&& 31)) &&& (3 : Int32))), .val (.ref fo), .val (.int car), .val (.ref q), .val (.int art), .val (.ref a2), .val (.ref q2), .unset] [(.ref kd)])) rfl (hb hby at_232)
  obtain ⟨T32, eh, hv32, ⟨X32, e32⟩, st32⟩ : ∃ (T' : State) (eh : Int32), ((kd = kS ∧ ((art = p0 ∧ eh = (1 : Int32)) ∨ (¬ (art = p0) ∧ eh = (0 : Int32)))) ∨ (¬ (kd = kS) ∧ eh = (0 : Int32))) ∧ own_Go X31 T30.heap T' ∧ ∀ target, Steps p.tables e below (T'.setTop (mkF m 249 #[.val (.int p0), .val (.int p1), .val (.int p2), .val (.int p3), .val (.int (1 : Int32)), .val (.ref a), .val (.ref kd), .val (.int ((p3 >>> ((3 : Int32) &&& 31)) &&& (3 : Int32))), .val (.ref fo), .val (.int car), .val (.ref q), .val (.int art), .val (.ref a2), .val (.ref q2), .unset] [(.int eh)])) target → Steps p.tables e below (T31.setTop (mkF m 235 #[.val (.int p0), .val (.int p1), .val (.int p2), .val (.int p3), .val (.int (1 : Int32)), .val (.ref a), .val (.ref kd), .val (.int ((p3 >>> ((3 : Int32) &&& 31)) &&& (3 : Int32))), .val (.ref fo), .val (.int car), .val (.ref q), .val (.int art), .val (.ref a2), .val (.ref q2), .unset] [(.ref kS), (.ref kd)])) target := by
    by_cases hf32 : kd = kS
    · obtain ⟨T33, w33_0, hv33, ⟨X33, e33⟩, st33⟩ : ∃ (T' : State) (w33_0 : Int32), ((art = p0 ∧ w33_0 = (1 : Int32)) ∨ (¬ (art = p0) ∧ w33_0 = (0 : Int32))) ∧ own_Go X31 T30.heap T' ∧ ∀ target, Steps p.tables e below (T'.setTop (mkF m 249 #[.val (.int p0), .val (.int p1), .val (.int p2), .val (.int p3), .val (.int (1 : Int32)), .val (.ref a), .val (.ref kd), .val (.int ((p3 >>> ((3 : Int32) &&& 31)) &&& (3 : Int32))), .val (.ref fo), .val (.int car), .val (.ref q), .val (.int art), .val (.ref a2), .val (.ref q2), .unset] [(.int w33_0)])) target → Steps p.tables e below (T31.setTop (mkF m 241 #[.val (.int p0), .val (.int p1), .val (.int p2), .val (.int p3), .val (.int (1 : Int32)), .val (.ref a), .val (.ref kd), .val (.int ((p3 >>> ((3 : Int32) &&& 31)) &&& (3 : Int32))), .val (.ref fo), .val (.int car), .val (.ref q), .val (.int art), .val (.ref a2), .val (.ref q2), .unset] [(.int p0), (.int art)])) target := by
        by_cases hf33 : art = p0
        · refine ⟨T31, (1 : Int32), Or.inl ⟨hf33, rfl⟩, ⟨X31, e31⟩, fun target kgo_ => ?_⟩
          show Steps p.tables e below (T31.setTop (mkF m 241 #[.val (.int p0), .val (.int p1), .val (.int p2), .val (.int p3), .val (.int (1 : Int32)), .val (.ref a), .val (.ref kd), .val (.int ((p3 >>> ((3 : Int32) &&& 31)) &&& (3 : Int32))), .val (.ref fo), .val (.int car), .val (.ref q), .val (.int art), .val (.ref a2), .val (.ref q2), .unset] [(.int p0), (.int art)])) _
          refine XS.icmpNo X31.here hx rfl (hb hby at_241) rfl (teq hf33).2 ?_
          show Steps p.tables e below (T31.setTop (mkF m 244 #[.val (.int p0), .val (.int p1), .val (.int p2), .val (.int p3), .val (.int (1 : Int32)), .val (.ref a), .val (.ref kd), .val (.int ((p3 >>> ((3 : Int32) &&& 31)) &&& (3 : Int32))), .val (.ref fo), .val (.int car), .val (.ref q), .val (.int art), .val (.ref a2), .val (.ref q2), .unset] [])) _
          refine XS.iconst X31.here hx rfl (hb hby at_244) ?_
          show Steps p.tables e below (T31.setTop (mkF m 245 #[.val (.int p0), .val (.int p1), .val (.int p2), .val (.int p3), .val (.int (1 : Int32)), .val (.ref a), .val (.ref kd), .val (.int ((p3 >>> ((3 : Int32) &&& 31)) &&& (3 : Int32))), .val (.ref fo), .val (.int car), .val (.ref q), .val (.int art), .val (.ref a2), .val (.ref q2), .unset] [(.int (1 : Int32))])) _
          refine XS.goto X31.here hx rfl (pc0 := 245) (pc' := 249) rfl (hb hby at_245) (by decide) (by decide) ?_
          show Steps p.tables e below (T31.setTop (mkF m 249 #[.val (.int p0), .val (.int p1), .val (.int p2), .val (.int p3), .val (.int (1 : Int32)), .val (.ref a), .val (.ref kd), .val (.int ((p3 >>> ((3 : Int32) &&& 31)) &&& (3 : Int32))), .val (.ref fo), .val (.int car), .val (.ref q), .val (.int art), .val (.ref a2), .val (.ref q2), .unset] [(.int (1 : Int32))])) _
          exact kgo_
        · refine ⟨T31, (0 : Int32), Or.inr ⟨hf33, rfl⟩, ⟨X31, e31⟩, fun target kgo_ => ?_⟩
          show Steps p.tables e below (T31.setTop (mkF m 241 #[.val (.int p0), .val (.int p1), .val (.int p2), .val (.int p3), .val (.int (1 : Int32)), .val (.ref a), .val (.ref kd), .val (.int ((p3 >>> ((3 : Int32) &&& 31)) &&& (3 : Int32))), .val (.ref fo), .val (.int car), .val (.ref q), .val (.int art), .val (.ref a2), .val (.ref q2), .unset] [(.int p0), (.int art)])) _
          refine XS.icmpYes X31.here hx rfl (pc0 := 241) (pc' := 248) rfl (hb hby at_241) rfl (feq hf33).2 (by decide) (by decide) ?_
          show Steps p.tables e below (T31.setTop (mkF m 248 #[.val (.int p0), .val (.int p1), .val (.int p2), .val (.int p3), .val (.int (1 : Int32)), .val (.ref a), .val (.ref kd), .val (.int ((p3 >>> ((3 : Int32) &&& 31)) &&& (3 : Int32))), .val (.ref fo), .val (.int car), .val (.ref q), .val (.int art), .val (.ref a2), .val (.ref q2), .unset] [])) _
          refine XS.iconst X31.here hx rfl (hb hby at_248) ?_
          show Steps p.tables e below (T31.setTop (mkF m 249 #[.val (.int p0), .val (.int p1), .val (.int p2), .val (.int p3), .val (.int (1 : Int32)), .val (.ref a), .val (.ref kd), .val (.int ((p3 >>> ((3 : Int32) &&& 31)) &&& (3 : Int32))), .val (.ref fo), .val (.int car), .val (.ref q), .val (.int art), .val (.ref a2), .val (.ref q2), .unset] [(.int (0 : Int32))])) _
          exact kgo_
      refine ⟨T33, w33_0, Or.inl ⟨hf32, hv33⟩, ⟨X33, e33⟩, fun target kgo_ => ?_⟩
      show Steps p.tables e below (T31.setTop (mkF m 235 #[.val (.int p0), .val (.int p1), .val (.int p2), .val (.int p3), .val (.int (1 : Int32)), .val (.ref a), .val (.ref kd), .val (.int ((p3 >>> ((3 : Int32) &&& 31)) &&& (3 : Int32))), .val (.ref fo), .val (.int car), .val (.ref q), .val (.int art), .val (.ref a2), .val (.ref q2), .unset] [(.ref kS), (.ref kd)])) _
      refine Jvm.RoadKit.acmp (g := (mkF m 235 #[.val (.int p0), .val (.int p1), .val (.int p2), .val (.int p3), .val (.int (1 : Int32)), .val (.ref a), .val (.ref kd), .val (.int ((p3 >>> ((3 : Int32) &&& 31)) &&& (3 : Int32))), .val (.ref fo), .val (.int car), .val (.ref q), .val (.int art), .val (.ref a2), .val (.ref q2), .unset] [(.ref kS), (.ref kd)])) X31 hx rfl rfl rfl (pc0 := 235) (pc' := 238) (same := true) rfl (hb hby at_235) rfl (decide_eq_true (congrArg Value.ref hf32)) (by decide) (by decide) ?_
      show Steps p.tables e below (T31.setTop (mkF m 238 #[.val (.int p0), .val (.int p1), .val (.int p2), .val (.int p3), .val (.int (1 : Int32)), .val (.ref a), .val (.ref kd), .val (.int ((p3 >>> ((3 : Int32) &&& 31)) &&& (3 : Int32))), .val (.ref fo), .val (.int car), .val (.ref q), .val (.int art), .val (.ref a2), .val (.ref q2), .unset] [])) _
      refine XS.iload X31.here hx rfl (hb hby at_238) rfl ?_
      show Steps p.tables e below (T31.setTop (mkF m 240 #[.val (.int p0), .val (.int p1), .val (.int p2), .val (.int p3), .val (.int (1 : Int32)), .val (.ref a), .val (.ref kd), .val (.int ((p3 >>> ((3 : Int32) &&& 31)) &&& (3 : Int32))), .val (.ref fo), .val (.int car), .val (.ref q), .val (.int art), .val (.ref a2), .val (.ref q2), .unset] [(.int art)])) _
      refine XS.iloadN X31.here hx rfl (hb hby at_240) rfl ?_
      refine st33 _ ?_
      show Steps p.tables e below (T33.setTop (mkF m 249 #[.val (.int p0), .val (.int p1), .val (.int p2), .val (.int p3), .val (.int (1 : Int32)), .val (.ref a), .val (.ref kd), .val (.int ((p3 >>> ((3 : Int32) &&& 31)) &&& (3 : Int32))), .val (.ref fo), .val (.int car), .val (.ref q), .val (.int art), .val (.ref a2), .val (.ref q2), .unset] [(.int w33_0)])) _
      exact kgo_
    · refine ⟨T31, (0 : Int32), Or.inr ⟨hf32, rfl⟩, ⟨X31, e31⟩, fun target kgo_ => ?_⟩
      show Steps p.tables e below (T31.setTop (mkF m 235 #[.val (.int p0), .val (.int p1), .val (.int p2), .val (.int p3), .val (.int (1 : Int32)), .val (.ref a), .val (.ref kd), .val (.int ((p3 >>> ((3 : Int32) &&& 31)) &&& (3 : Int32))), .val (.ref fo), .val (.int car), .val (.ref q), .val (.int art), .val (.ref a2), .val (.ref q2), .unset] [(.ref kS), (.ref kd)])) _
      refine Jvm.RoadKit.acmp (g := (mkF m 235 #[.val (.int p0), .val (.int p1), .val (.int p2), .val (.int p3), .val (.int (1 : Int32)), .val (.ref a), .val (.ref kd), .val (.int ((p3 >>> ((3 : Int32) &&& 31)) &&& (3 : Int32))), .val (.ref fo), .val (.int car), .val (.ref q), .val (.int art), .val (.ref a2), .val (.ref q2), .unset] [(.ref kS), (.ref kd)])) X31 hx rfl rfl rfl (pc0 := 235) (pc' := 248) (same := false) rfl (hb hby at_235) rfl (decide_eq_false fun q => hf32 (Value.ref.inj q)) (by decide) (by decide) ?_
      show Steps p.tables e below (T31.setTop (mkF m 248 #[.val (.int p0), .val (.int p1), .val (.int p2), .val (.int p3), .val (.int (1 : Int32)), .val (.ref a), .val (.ref kd), .val (.int ((p3 >>> ((3 : Int32) &&& 31)) &&& (3 : Int32))), .val (.ref fo), .val (.int car), .val (.ref q), .val (.int art), .val (.ref a2), .val (.ref q2), .unset] [])) _
      refine XS.iconst X31.here hx rfl (hb hby at_248) ?_
      show Steps p.tables e below (T31.setTop (mkF m 249 #[.val (.int p0), .val (.int p1), .val (.int p2), .val (.int p3), .val (.int (1 : Int32)), .val (.ref a), .val (.ref kd), .val (.int ((p3 >>> ((3 : Int32) &&& 31)) &&& (3 : Int32))), .val (.ref fo), .val (.int car), .val (.ref q), .val (.int art), .val (.ref a2), .val (.ref q2), .unset] [(.int (0 : Int32))])) _
      exact kgo_
  obtain ⟨cq34, kq34, q34a, q34b, q34c⟩ := isOf hZ e32 f30_E_q
  obtain ⟨_, _, ⟨T34, L34, k34, n34⟩, -, X34, ⟨Lc34, hQ34, l34, y34, z34⟩, st34⟩ := X32.virtualBack hx (y := (⟨"com/example/witnesseth/witnesseth/HeadingLine", "article", "()I"⟩ : MethodName)) (z := (⟨"com/example/witnesseth/witnesseth/HeadingLine", "article", "()I"⟩ : MethodName)) hown (mvT hZ (hw _ (List.mem_of_getElem? (i := 111) rfl))) (mvT hZ (hw _ (List.mem_of_getElem? (i := 112) rfl))) (notFace_of_selects (args := #[]) (mvT hZ (hw _ (List.mem_of_getElem? (i := 114) rfl)))) (mvT hZ (hw _ (List.mem_of_getElem? (i := 114) rfl))) (mvT hZ (hw _ (List.mem_of_getElem? (i := 113) rfl))) (by decide) (backOf (W := 0) (own_art1 l Z a0 hw [] q a ea (own_uv (fun _ => Value.null) 0 (.ref x1)) x1 p0 T30.heap n0 O30  f30_F_q_value f30_L_a f30_E_x1 f30_F_x1_value rfl) hZ (hw _ (List.mem_of_getElem? (i := 115) rfl)) (hw _ (List.mem_of_getElem? (i := 76) rfl)) (by decide) (by decide)) q34a q34c (g := (mkF m 253 #[.val (.int p0), .val (.int p1), .val (.int p2), .val (.int p3), .val (.int (1 : Int32)), .val (.ref a), .val (.ref kd), .val (.int ((p3 >>> ((3 : Int32) &&& 31)) &&& (3 : Int32))), .val (.ref fo), .val (.int car), .val (.ref q), .val (.int art), .val (.ref a2), .val (.ref q2), .val (.int eh)] [(.ref q)])) rfl (by rw [hml]; rfl) (Steps.refl _) (argsL := []) (rest := []) (lenOf own_pd8 rfl) rfl (by show 2 * 0 + _ ≤ _; exact Nat.le_of_eq rfl) (hb hby at_253) (fun _ _ => ⟨rfl, e32, (by decide : 16 + 0 ≤ _), (by decide : 66 + 0 ≤ _)⟩)
  dsimp only [Pt.U, Pt.locs, Pt.cells, Pt.slots] at X34 l34 y34 z34 st34 hQ34
  subst l34 y34 z34
  obtain ⟨rfl, rfl, e34⟩ := hQ34
  try rw [List.append_nil] at X34
  obtain ⟨cq35, kq35, q35a, q35b, q35c⟩ := isOf hZ e34 p30_E_q
  obtain ⟨_, _, ⟨T35, L35, k35, n35⟩, -, X35, ⟨Lc35, hQ35, l35, y35, z35⟩, st35⟩ := X34.virtualBack hx (y := (⟨"com/example/witnesseth/witnesseth/HeadingLine", "article", "()I"⟩ : MethodName)) (z := (⟨"com/example/witnesseth/witnesseth/HeadingLine", "article", "()I"⟩ : MethodName)) hown (mvT hZ (hw _ (List.mem_of_getElem? (i := 111) rfl))) (mvT hZ (hw _ (List.mem_of_getElem? (i := 112) rfl))) (notFace_of_selects (args := #[]) (mvT hZ (hw _ (List.mem_of_getElem? (i := 114) rfl)))) (mvT hZ (hw _ (List.mem_of_getElem? (i := 114) rfl))) (mvT hZ (hw _ (List.mem_of_getElem? (i := 113) rfl))) (by decide) (backOf (W := 0) (own_art1 l Z a0 hw [] q2 a2 ea2 (own_uv (fun _ => Value.null) 0 (.ref x2)) x2 art T30.heap n0 O30  p30_F_q_value f30_L_a2 f30_E_x2 f30_F_x2_value rfl) hZ (hw _ (List.mem_of_getElem? (i := 115) rfl)) (hw _ (List.mem_of_getElem? (i := 76) rfl)) (by decide) (by decide)) q35a q35c (g := (mkF m 262 #[.val (.int p0), .val (.int p1), .val (.int p2), .val (.int p3), .val (.int (1 : Int32)), .val (.ref a), .val (.ref kd), .val (.int ((p3 >>> ((3 : Int32) &&& 31)) &&& (3 : Int32))), .val (.ref fo), .val (.int car), .val (.ref q), .val (.int art), .val (.ref a2), .val (.ref q2), .val (.int eh)] [(.ref q2)])) rfl (by rw [hml]; rfl) (Steps.refl _) (argsL := []) (rest := []) (lenOf own_pd8 rfl) rfl (by show 2 * 0 + _ ≤ _; exact Nat.le_of_eq rfl) (hb hby at_262) (fun _ _ => ⟨rfl, e34, (by decide : 16 + 0 ≤ _), (by decide : 66 + 0 ≤ _)⟩)
  dsimp only [Pt.U, Pt.locs, Pt.cells, Pt.slots] at X35 l35 y35 z35 st35 hQ35
  subst l35 y35 z35
  obtain ⟨rfl, rfl, e35⟩ := hQ35
  try rw [List.append_nil] at X35
  obtain ⟨cq36, kq36, q36a, q36b, q36c⟩ := isOf hZ e35 p30_E_q
  obtain ⟨_, _, ⟨T36, L36, k36, n36⟩, -, X36, ⟨Lc36, hQ36, l36, y36, z36⟩, st36⟩ := X35.virtualBack hx (y := (⟨"com/example/witnesseth/witnesseth/HeadingLine", "holds", "(Lcom/example/witnesseth/witnesseth/HeadingLine;)Z"⟩ : MethodName)) (z := (⟨"com/example/witnesseth/witnesseth/HeadingLine", "holds", "(Lcom/example/witnesseth/witnesseth/HeadingLine;)Z"⟩ : MethodName)) hown (mvT hZ (hw _ (List.mem_of_getElem? (i := 146) rfl))) (mvT hZ (hw _ (List.mem_of_getElem? (i := 147) rfl))) (notFace_of_selects (args := #[]) (mvT hZ (hw _ (List.mem_of_getElem? (i := 149) rfl)))) (mvT hZ (hw _ (List.mem_of_getElem? (i := 149) rfl))) (mvT hZ (hw _ (List.mem_of_getElem? (i := 148) rfl))) (by decide) (backOf (W := 0) (own_h3_11 l Z a0 hw [] q2 q D cD ich icc kA kS f0 f1 f2 f3 kA kd a2 ea2 (own_uv (fun _ => Value.null) 0 (.ref x2)) x2 art a ea (own_uv (fun _ => Value.null) 0 (.ref x1)) x1 p0 T30.heap n0 O30 K p30_E_q f30_E_q p30_F_q_kind f30_F_q_kind p30_F_q_value f30_L_a2 f30_E_x2 f30_F_x2_value rfl f30_F_q_value f30_L_a f30_E_x1 f30_F_x1_value rfl) hZ (hw _ (List.mem_of_getElem? (i := 150) rfl)) (hw _ (List.mem_of_getElem? (i := 76) rfl)) (by decide) (by decide)) q36a q36c (g := (mkF m 274 #[.val (.int p0), .val (.int p1), .val (.int p2), .val (.int p3), .val (.int (1 : Int32)), .val (.ref a), .val (.ref kd), .val (.int ((p3 >>> ((3 : Int32) &&& 31)) &&& (3 : Int32))), .val (.ref fo), .val (.int car), .val (.ref q), .val (.int art), .val (.ref a2), .val (.ref q2), .val (.int eh)] [(.ref q), (.ref q2)])) rfl (by rw [hml]; rfl) (Steps.refl _) (argsL := [(.ref q)]) (rest := []) (lenOf own_pd12 rfl) rfl (by show 2 * 0 + _ ≤ _; exact Nat.le_of_eq rfl) (hb hby at_274) (fun _ _ => ⟨rfl, e35, (by decide : 16 + 0 ≤ _), (by decide : 66 + 0 ≤ _)⟩)
  dsimp only [Pt.U, Pt.locs, Pt.cells, Pt.slots] at X36 l36 y36 z36 st36 hQ36
  subst l36 y36 z36
  obtain ⟨rb1, rfl, rfl, e36, rel_rb1⟩ := hQ36
  try rw [List.append_nil] at X36
  obtain ⟨fs, hr, hrun, hended, hend⟩ := X36.leaveW hS (by rw [show T36.heap = T30.heap from e36]; exact hk) (v := some (.int (1 : Int32))) (fun h => by rw [Bd.returns] at h; cases h)
  refine ⟨_, _, pre0 _ ?_, hrun, hended, _, _, rfl, ?_, ⟨hend.1, hend.2.1, hend.2.2.1, hend.2.2.2.mono (by decide) (by decide)⟩⟩
  · show Steps p.tables e below (s₁.setTop (mkF m 0 #[.val (.int p0), .val (.int p1), .val (.int p2), .val (.int p3), .unset, .unset, .unset, .unset, .unset, .unset, .unset, .unset, .unset, .unset, .unset] [])) _
    refine XS.iloadN X0.here hx rfl (hb hby at_0) rfl ?_
    show Steps p.tables e below (s₁.setTop (mkF m 1 #[.val (.int p0), .val (.int p1), .val (.int p2), .val (.int p3), .unset, .unset, .unset, .unset, .unset, .unset, .unset, .unset, .unset, .unset, .unset] [(.int p3)])) _
    refine XS.iconst X0.here hx rfl (hb hby at_1) ?_
    show Steps p.tables e below (s₁.setTop (mkF m 2 #[.val (.int p0), .val (.int p1), .val (.int p2), .val (.int p3), .unset, .unset, .unset, .unset, .unset, .unset, .unset, .unset, .unset, .unset, .unset] [(.int (3 : Int32)), (.int p3)])) _
    refine XS.iand X0.here hx rfl (hb hby at_2) rfl ?_
    show Steps p.tables e below (s₁.setTop (mkF m 3 #[.val (.int p0), .val (.int p1), .val (.int p2), .val (.int p3), .unset, .unset, .unset, .unset, .unset, .unset, .unset, .unset, .unset, .unset, .unset] [(.int (p3 &&& (3 : Int32)))])) _
    refine XS.iconst X0.here hx rfl (hb hby at_3) ?_
    show Steps p.tables e below (s₁.setTop (mkF m 4 #[.val (.int p0), .val (.int p1), .val (.int p2), .val (.int p3), .unset, .unset, .unset, .unset, .unset, .unset, .unset, .unset, .unset, .unset, .unset] [(.int (3 : Int32)), (.int (p3 &&& (3 : Int32)))])) _
    refine iremM X0 hx rfl (hb hby at_4) rfl (by decide) ?_
    show Steps p.tables e below (s₁.setTop (mkF m 5 #[.val (.int p0), .val (.int p1), .val (.int p2), .val (.int p3), .unset, .unset, .unset, .unset, .unset, .unset, .unset, .unset, .unset, .unset, .unset] [(.int ((p3 &&& (3 : Int32)) % (3 : Int32)))])) _
    rw [hc]
    show Steps p.tables e below (s₁.setTop (mkF m 5 #[.val (.int p0), .val (.int p1), .val (.int p2), .val (.int p3), .unset, .unset, .unset, .unset, .unset, .unset, .unset, .unset, .unset, .unset, .unset] [(.int (0 : Int32))])) _
    refine XS.iconst X0.here hx rfl (hb hby at_5) ?_
    show Steps p.tables e below (s₁.setTop (mkF m 6 #[.val (.int p0), .val (.int p1), .val (.int p2), .val (.int p3), .unset, .unset, .unset, .unset, .unset, .unset, .unset, .unset, .unset, .unset, .unset] [(.int (1 : Int32)), (.int (0 : Int32))])) _
    refine XS.iadd X0.here hx rfl (hb hby at_6) rfl ?_
    show Steps p.tables e below (s₁.setTop (mkF m 7 #[.val (.int p0), .val (.int p1), .val (.int p2), .val (.int p3), .unset, .unset, .unset, .unset, .unset, .unset, .unset, .unset, .unset, .unset, .unset] [(.int ((0 : Int32) + (1 : Int32)))])) _
    rw [show ((0 : Int32) + (1 : Int32)) = (1 : Int32) from by decide]
    show Steps p.tables e below (s₁.setTop (mkF m 7 #[.val (.int p0), .val (.int p1), .val (.int p2), .val (.int p3), .unset, .unset, .unset, .unset, .unset, .unset, .unset, .unset, .unset, .unset, .unset] [(.int (1 : Int32))])) _
    refine XS.istore X0.here hx rfl (hb hby at_7) rfl (l' := #[.val (.int p0), .val (.int p1), .val (.int p2), .val (.int p3), .val (.int (1 : Int32)), .unset, .unset, .unset, .unset, .unset, .unset, .unset, .unset, .unset, .unset]) rfl ?_
    show Steps p.tables e below (s₁.setTop (mkF m 9 #[.val (.int p0), .val (.int p1), .val (.int p2), .val (.int p3), .val (.int (1 : Int32)), .unset, .unset, .unset, .unset, .unset, .unset, .unset, .unset, .unset, .unset] [])) _
    refine st1 _ ?_
    show Steps p.tables e below (T1.setTop (mkF m 12 #[.val (.int p0), .val (.int p1), .val (.int p2), .val (.int p3), .val (.int (1 : Int32)), .unset, .unset, .unset, .unset, .unset, .unset, .unset, .unset, .unset, .unset] [(.ref a)])) _
    refine XS.dup X1.here hx rfl (hb hby at_12) rfl rfl ?_
    show Steps p.tables e below (T1.setTop (mkF m 13 #[.val (.int p0), .val (.int p1), .val (.int p2), .val (.int p3), .val (.int (1 : Int32)), .unset, .unset, .unset, .unset, .unset, .unset, .unset, .unset, .unset, .unset] [(.ref a), (.ref a)])) _
    refine st2.trans ?_
    show Steps p.tables e below (T2.setTop (mkF m 16 #[.val (.int p0), .val (.int p1), .val (.int p2), .val (.int p3), .val (.int (1 : Int32)), .unset, .unset, .unset, .unset, .unset, .unset, .unset, .unset, .unset, .unset] [(.ref a)])) _
    refine XS.astore X2.here hx rfl (hb hby at_16) rfl rfl (l' := #[.val (.int p0), .val (.int p1), .val (.int p2), .val (.int p3), .val (.int (1 : Int32)), .val (.ref a), .unset, .unset, .unset, .unset, .unset, .unset, .unset, .unset, .unset]) rfl ?_
    show Steps p.tables e below (T2.setTop (mkF m 18 #[.val (.int p0), .val (.int p1), .val (.int p2), .val (.int p3), .val (.int (1 : Int32)), .val (.ref a), .unset, .unset, .unset, .unset, .unset, .unset, .unset, .unset, .unset] [])) _
    refine XS.aload X2.here hx rfl (hb hby at_18) rfl rfl ?_
    show Steps p.tables e below (T2.setTop (mkF m 20 #[.val (.int p0), .val (.int p1), .val (.int p2), .val (.int p3), .val (.int (1 : Int32)), .val (.ref a), .unset, .unset, .unset, .unset, .unset, .unset, .unset, .unset, .unset] [(.ref a)])) _
    refine XS.iloadN X2.here hx rfl (hb hby at_20) rfl ?_
    show Steps p.tables e below (T2.setTop (mkF m 21 #[.val (.int p0), .val (.int p1), .val (.int p2), .val (.int p3), .val (.int (1 : Int32)), .val (.ref a), .unset, .unset, .unset, .unset, .unset, .unset, .unset, .unset, .unset] [(.int p0), (.ref a)])) _
    refine st3 _ ?_
    show Steps p.tables e below (T3.setTop (mkF m 24 #[.val (.int p0), .val (.int p1), .val (.int p2), .val (.int p3), .val (.int (1 : Int32)), .val (.ref a), .unset, .unset, .unset, .unset, .unset, .unset, .unset, .unset, .unset] [(.ref x1), (.ref a)])) _
    refine st4.trans ?_
    show Steps p.tables e below (T4.setTop (mkF m 29 #[.val (.int p0), .val (.int p1), .val (.int p2), .val (.int p3), .val (.int (1 : Int32)), .val (.ref a), .unset, .unset, .unset, .unset, .unset, .unset, .unset, .unset, .unset] [(.int (1 : Int32))])) _
    refine XS.pop X4.here hx rfl (hb hby at_29) rfl rfl ?_
    show Steps p.tables e below (T4.setTop (mkF m 30 #[.val (.int p0), .val (.int p1), .val (.int p2), .val (.int p3), .val (.int (1 : Int32)), .val (.ref a), .unset, .unset, .unset, .unset, .unset, .unset, .unset, .unset, .unset] [])) _
    refine XS.iload X4.here hx rfl (hb hby at_30) rfl ?_
    show Steps p.tables e below (T4.setTop (mkF m 32 #[.val (.int p0), .val (.int p1), .val (.int p2), .val (.int p3), .val (.int (1 : Int32)), .val (.ref a), .unset, .unset, .unset, .unset, .unset, .unset, .unset, .unset, .unset] [(.int (1 : Int32))])) _
    refine XS.iconst X4.here hx rfl (hb hby at_32) ?_
    show Steps p.tables e below (T4.setTop (mkF m 33 #[.val (.int p0), .val (.int p1), .val (.int p2), .val (.int p3), .val (.int (1 : Int32)), .val (.ref a), .unset, .unset, .unset, .unset, .unset, .unset, .unset, .unset, .unset] [(.int (2 : Int32)), (.int (1 : Int32))])) _
    refine XS.icmpYes X4.here hx rfl (pc0 := 33) (pc' := 48) rfl (hb hby at_33) rfl (tlt (by decide : (1 : Int32) < (2 : Int32))).1 (by decide) (by decide) ?_
    show Steps p.tables e below (T4.setTop (mkF m 48 #[.val (.int p0), .val (.int p1), .val (.int p2), .val (.int p3), .val (.int (1 : Int32)), .val (.ref a), .unset, .unset, .unset, .unset, .unset, .unset, .unset, .unset, .unset] [])) _
    refine XS.iload X4.here hx rfl (hb hby at_48) rfl ?_
    show Steps p.tables e below (T4.setTop (mkF m 50 #[.val (.int p0), .val (.int p1), .val (.int p2), .val (.int p3), .val (.int (1 : Int32)), .val (.ref a), .unset, .unset, .unset, .unset, .unset, .unset, .unset, .unset, .unset] [(.int (1 : Int32))])) _
    refine XS.iconst X4.here hx rfl (hb hby at_50) ?_
    show Steps p.tables e below (T4.setTop (mkF m 51 #[.val (.int p0), .val (.int p1), .val (.int p2), .val (.int p3), .val (.int (1 : Int32)), .val (.ref a), .unset, .unset, .unset, .unset, .unset, .unset, .unset, .unset, .unset] [(.int (3 : Int32)), (.int (1 : Int32))])) _
    refine XS.icmpYes X4.here hx rfl (pc0 := 51) (pc' := 66) rfl (hb hby at_51) rfl (tlt (by decide : (1 : Int32) < (3 : Int32))).1 (by decide) (by decide) ?_
    show Steps p.tables e below (T4.setTop (mkF m 66 #[.val (.int p0), .val (.int p1), .val (.int p2), .val (.int p3), .val (.int (1 : Int32)), .val (.ref a), .unset, .unset, .unset, .unset, .unset, .unset, .unset, .unset, .unset] [])) _
    refine XS.iloadN X4.here hx rfl (hb hby at_66) rfl ?_
    show Steps p.tables e below (T4.setTop (mkF m 67 #[.val (.int p0), .val (.int p1), .val (.int p2), .val (.int p3), .val (.int (1 : Int32)), .val (.ref a), .unset, .unset, .unset, .unset, .unset, .unset, .unset, .unset, .unset] [(.int p3)])) _
    refine XS.iconst X4.here hx rfl (hb hby at_67) ?_
    show Steps p.tables e below (T4.setTop (mkF m 68 #[.val (.int p0), .val (.int p1), .val (.int p2), .val (.int p3), .val (.int (1 : Int32)), .val (.ref a), .unset, .unset, .unset, .unset, .unset, .unset, .unset, .unset, .unset] [(.int (2 : Int32)), (.int p3)])) _
    refine XS.ishr X4.here hx rfl (hb hby at_68) rfl ?_
    show Steps p.tables e below (T4.setTop (mkF m 69 #[.val (.int p0), .val (.int p1), .val (.int p2), .val (.int p3), .val (.int (1 : Int32)), .val (.ref a), .unset, .unset, .unset, .unset, .unset, .unset, .unset, .unset, .unset] [(.int (p3 >>> ((2 : Int32) &&& 31)))])) _
    refine XS.iconst X4.here hx rfl (hb hby at_69) ?_
    show Steps p.tables e below (T4.setTop (mkF m 70 #[.val (.int p0), .val (.int p1), .val (.int p2), .val (.int p3), .val (.int (1 : Int32)), .val (.ref a), .unset, .unset, .unset, .unset, .unset, .unset, .unset, .unset, .unset] [(.int (1 : Int32)), (.int (p3 >>> ((2 : Int32) &&& 31)))])) _
    refine XS.iand X4.here hx rfl (hb hby at_70) rfl ?_
    refine st5 _ ?_
    show Steps p.tables e below (T5.setTop (mkF m 83 #[.val (.int p0), .val (.int p1), .val (.int p2), .val (.int p3), .val (.int (1 : Int32)), .val (.ref a), .unset, .unset, .unset, .unset, .unset, .unset, .unset, .unset, .unset] [(.ref kd)])) _
    refine XS.astore X5.here hx rfl (hb hby at_83) rfl rfl (l' := #[.val (.int p0), .val (.int p1), .val (.int p2), .val (.int p3), .val (.int (1 : Int32)), .val (.ref a), .val (.ref kd), .unset, .unset, .unset, .unset, .unset, .unset, .unset, .unset]) rfl ?_
    show Steps p.tables e below (T5.setTop (mkF m 85 #[.val (.int p0), .val (.int p1), .val (.int p2), .val (.int p3), .val (.int (1 : Int32)), .val (.ref a), .val (.ref kd), .unset, .unset, .unset, .unset, .unset, .unset, .unset, .unset] [])) _
    refine XS.iloadN X5.here hx rfl (hb hby at_85) rfl ?_
    show Steps p.tables e below (T5.setTop (mkF m 86 #[.val (.int p0), .val (.int p1), .val (.int p2), .val (.int p3), .val (.int (1 : Int32)), .val (.ref a), .val (.ref kd), .unset, .unset, .unset, .unset, .unset, .unset, .unset, .unset] [(.int p3)])) _
    refine XS.iconst X5.here hx rfl (hb hby at_86) ?_
    show Steps p.tables e below (T5.setTop (mkF m 87 #[.val (.int p0), .val (.int p1), .val (.int p2), .val (.int p3), .val (.int (1 : Int32)), .val (.ref a), .val (.ref kd), .unset, .unset, .unset, .unset, .unset, .unset, .unset, .unset] [(.int (3 : Int32)), (.int p3)])) _
    refine XS.ishr X5.here hx rfl (hb hby at_87) rfl ?_
    show Steps p.tables e below (T5.setTop (mkF m 88 #[.val (.int p0), .val (.int p1), .val (.int p2), .val (.int p3), .val (.int (1 : Int32)), .val (.ref a), .val (.ref kd), .unset, .unset, .unset, .unset, .unset, .unset, .unset, .unset] [(.int (p3 >>> ((3 : Int32) &&& 31)))])) _
    refine XS.iconst X5.here hx rfl (hb hby at_88) ?_
    show Steps p.tables e below (T5.setTop (mkF m 89 #[.val (.int p0), .val (.int p1), .val (.int p2), .val (.int p3), .val (.int (1 : Int32)), .val (.ref a), .val (.ref kd), .unset, .unset, .unset, .unset, .unset, .unset, .unset, .unset] [(.int (3 : Int32)), (.int (p3 >>> ((3 : Int32) &&& 31)))])) _
    refine XS.iand X5.here hx rfl (hb hby at_89) rfl ?_
    show Steps p.tables e below (T5.setTop (mkF m 90 #[.val (.int p0), .val (.int p1), .val (.int p2), .val (.int p3), .val (.int (1 : Int32)), .val (.ref a), .val (.ref kd), .unset, .unset, .unset, .unset, .unset, .unset, .unset, .unset] [(.int ((p3 >>> ((3 : Int32) &&& 31)) &&& (3 : Int32)))])) _
    refine XS.istore X5.here hx rfl (hb hby at_90) rfl (l' := #[.val (.int p0), .val (.int p1), .val (.int p2), .val (.int p3), .val (.int (1 : Int32)), .val (.ref a), .val (.ref kd), .val (.int ((p3 >>> ((3 : Int32) &&& 31)) &&& (3 : Int32))), .unset, .unset, .unset, .unset, .unset, .unset, .unset]) rfl ?_
    show Steps p.tables e below (T5.setTop (mkF m 92 #[.val (.int p0), .val (.int p1), .val (.int p2), .val (.int p3), .val (.int (1 : Int32)), .val (.ref a), .val (.ref kd), .val (.int ((p3 >>> ((3 : Int32) &&& 31)) &&& (3 : Int32))), .unset, .unset, .unset, .unset, .unset, .unset, .unset] [])) _
    refine XS.iload X5.here hx rfl (hb hby at_92) rfl ?_
    refine st8 _ ?_
    show Steps p.tables e below (T8.setTop (mkF m 130 #[.val (.int p0), .val (.int p1), .val (.int p2), .val (.int p3), .val (.int (1 : Int32)), .val (.ref a), .val (.ref kd), .val (.int ((p3 >>> ((3 : Int32) &&& 31)) &&& (3 : Int32))), .unset, .unset, .unset, .unset, .unset, .unset, .unset] [(.ref fo)])) _
    refine XS.astore X8.here hx rfl (hb hby at_130) rfl rfl (l' := #[.val (.int p0), .val (.int p1), .val (.int p2), .val (.int p3), .val (.int (1 : Int32)), .val (.ref a), .val (.ref kd), .val (.int ((p3 >>> ((3 : Int32) &&& 31)) &&& (3 : Int32))), .val (.ref fo), .unset, .unset, .unset, .unset, .unset, .unset]) rfl ?_
    show Steps p.tables e below (T8.setTop (mkF m 132 #[.val (.int p0), .val (.int p1), .val (.int p2), .val (.int p3), .val (.int (1 : Int32)), .val (.ref a), .val (.ref kd), .val (.int ((p3 >>> ((3 : Int32) &&& 31)) &&& (3 : Int32))), .val (.ref fo), .unset, .unset, .unset, .unset, .unset, .unset] [])) _
    refine XS.iloadN X8.here hx rfl (hb hby at_132) rfl ?_
    show Steps p.tables e below (T8.setTop (mkF m 133 #[.val (.int p0), .val (.int p1), .val (.int p2), .val (.int p3), .val (.int (1 : Int32)), .val (.ref a), .val (.ref kd), .val (.int ((p3 >>> ((3 : Int32) &&& 31)) &&& (3 : Int32))), .val (.ref fo), .unset, .unset, .unset, .unset, .unset, .unset] [(.int p3)])) _
    refine XS.iconst X8.here hx rfl (hb hby at_133) ?_
    show Steps p.tables e below (T8.setTop (mkF m 134 #[.val (.int p0), .val (.int p1), .val (.int p2), .val (.int p3), .val (.int (1 : Int32)), .val (.ref a), .val (.ref kd), .val (.int ((p3 >>> ((3 : Int32) &&& 31)) &&& (3 : Int32))), .val (.ref fo), .unset, .unset, .unset, .unset, .unset, .unset] [(.int (5 : Int32)), (.int p3)])) _
    refine XS.ishr X8.here hx rfl (hb hby at_134) rfl ?_
    show Steps p.tables e below (T8.setTop (mkF m 135 #[.val (.int p0), .val (.int p1), .val (.int p2), .val (.int p3), .val (.int (1 : Int32)), .val (.ref a), .val (.ref kd), .val (.int ((p3 >>> ((3 : Int32) &&& 31)) &&& (3 : Int32))), .val (.ref fo), .unset, .unset, .unset, .unset, .unset, .unset] [(.int (p3 >>> ((5 : Int32) &&& 31)))])) _
    refine XS.iconst X8.here hx rfl (hb hby at_135) ?_
    show Steps p.tables e below (T8.setTop (mkF m 136 #[.val (.int p0), .val (.int p1), .val (.int p2), .val (.int p3), .val (.int (1 : Int32)), .val (.ref a), .val (.ref kd), .val (.int ((p3 >>> ((3 : Int32) &&& 31)) &&& (3 : Int32))), .val (.ref fo), .unset, .unset, .unset, .unset, .unset, .unset] [(.int (1 : Int32)), (.int (p3 >>> ((5 : Int32) &&& 31)))])) _
    refine XS.iand X8.here hx rfl (hb hby at_136) rfl ?_
    refine st15 _ ?_
    show Steps p.tables e below (T15.setTop (mkF m 145 #[.val (.int p0), .val (.int p1), .val (.int p2), .val (.int p3), .val (.int (1 : Int32)), .val (.ref a), .val (.ref kd), .val (.int ((p3 >>> ((3 : Int32) &&& 31)) &&& (3 : Int32))), .val (.ref fo), .unset, .unset, .unset, .unset, .unset, .unset] [(.int car)])) _
    refine XS.istore X15.here hx rfl (hb hby at_145) rfl (l' := #[.val (.int p0), .val (.int p1), .val (.int p2), .val (.int p3), .val (.int (1 : Int32)), .val (.ref a), .val (.ref kd), .val (.int ((p3 >>> ((3 : Int32) &&& 31)) &&& (3 : Int32))), .val (.ref fo), .val (.int car), .unset, .unset, .unset, .unset, .unset]) rfl ?_
    show Steps p.tables e below (T15.setTop (mkF m 147 #[.val (.int p0), .val (.int p1), .val (.int p2), .val (.int p3), .val (.int (1 : Int32)), .val (.ref a), .val (.ref kd), .val (.int ((p3 >>> ((3 : Int32) &&& 31)) &&& (3 : Int32))), .val (.ref fo), .val (.int car), .unset, .unset, .unset, .unset, .unset] [])) _
    refine st16 _ ?_
    show Steps p.tables e below (T16.setTop (mkF m 150 #[.val (.int p0), .val (.int p1), .val (.int p2), .val (.int p3), .val (.int (1 : Int32)), .val (.ref a), .val (.ref kd), .val (.int ((p3 >>> ((3 : Int32) &&& 31)) &&& (3 : Int32))), .val (.ref fo), .val (.int car), .unset, .unset, .unset, .unset, .unset] [(.ref q)])) _
    refine XS.dup X16.here hx rfl (hb hby at_150) rfl rfl ?_
    show Steps p.tables e below (T16.setTop (mkF m 151 #[.val (.int p0), .val (.int p1), .val (.int p2), .val (.int p3), .val (.int (1 : Int32)), .val (.ref a), .val (.ref kd), .val (.int ((p3 >>> ((3 : Int32) &&& 31)) &&& (3 : Int32))), .val (.ref fo), .val (.int car), .unset, .unset, .unset, .unset, .unset] [(.ref q), (.ref q)])) _
    refine XS.iloadN X16.here hx rfl (hb hby at_151) rfl ?_
    show Steps p.tables e below (T16.setTop (mkF m 152 #[.val (.int p0), .val (.int p1), .val (.int p2), .val (.int p3), .val (.int (1 : Int32)), .val (.ref a), .val (.ref kd), .val (.int ((p3 >>> ((3 : Int32) &&& 31)) &&& (3 : Int32))), .val (.ref fo), .val (.int car), .unset, .unset, .unset, .unset, .unset] [(.int p3), (.ref q), (.ref q)])) _
    refine XS.aload X16.here hx rfl (hb hby at_152) rfl rfl ?_
    show Steps p.tables e below (T16.setTop (mkF m 154 #[.val (.int p0), .val (.int p1), .val (.int p2), .val (.int p3), .val (.int (1 : Int32)), .val (.ref a), .val (.ref kd), .val (.int ((p3 >>> ((3 : Int32) &&& 31)) &&& (3 : Int32))), .val (.ref fo), .val (.int car), .unset, .unset, .unset, .unset, .unset] [(.ref kd), (.int p3), (.ref q), (.ref q)])) _
    refine st17 _ ?_
    show Steps p.tables e below (T17.setTop (mkF m 156 #[.val (.int p0), .val (.int p1), .val (.int p2), .val (.int p3), .val (.int (1 : Int32)), .val (.ref a), .val (.ref kd), .val (.int ((p3 >>> ((3 : Int32) &&& 31)) &&& (3 : Int32))), .val (.ref fo), .val (.int car), .unset, .unset, .unset, .unset, .unset] [(.ref lit17), (.ref kd), (.int p3), (.ref q), (.ref q)])) _
    refine XS.aload X17.here hx rfl (hb hby at_156) rfl rfl ?_
    show Steps p.tables e below (T17.setTop (mkF m 158 #[.val (.int p0), .val (.int p1), .val (.int p2), .val (.int p3), .val (.int (1 : Int32)), .val (.ref a), .val (.ref kd), .val (.int ((p3 >>> ((3 : Int32) &&& 31)) &&& (3 : Int32))), .val (.ref fo), .val (.int car), .unset, .unset, .unset, .unset, .unset] [(.ref a), (.ref lit17), (.ref kd), (.int p3), (.ref q), (.ref q)])) _
    refine st18 _ ?_
    show Steps p.tables e below (T18.setTop (mkF m 160 #[.val (.int p0), .val (.int p1), .val (.int p2), .val (.int p3), .val (.int (1 : Int32)), .val (.ref a), .val (.ref kd), .val (.int ((p3 >>> ((3 : Int32) &&& 31)) &&& (3 : Int32))), .val (.ref fo), .val (.int car), .unset, .unset, .unset, .unset, .unset] [(.ref lit18), (.ref a), (.ref lit17), (.ref kd), (.int p3), (.ref q), (.ref q)])) _
    refine XS.iload X18.here hx rfl (hb hby at_160) rfl ?_
    show Steps p.tables e below (T18.setTop (mkF m 162 #[.val (.int p0), .val (.int p1), .val (.int p2), .val (.int p3), .val (.int (1 : Int32)), .val (.ref a), .val (.ref kd), .val (.int ((p3 >>> ((3 : Int32) &&& 31)) &&& (3 : Int32))), .val (.ref fo), .val (.int car), .unset, .unset, .unset, .unset, .unset] [(.int car), (.ref lit18), (.ref a), (.ref lit17), (.ref kd), (.int p3), (.ref q), (.ref q)])) _
    refine XS.aload X18.here hx rfl (hb hby at_162) rfl rfl ?_
    show Steps p.tables e below (T18.setTop (mkF m 164 #[.val (.int p0), .val (.int p1), .val (.int p2), .val (.int p3), .val (.int (1 : Int32)), .val (.ref a), .val (.ref kd), .val (.int ((p3 >>> ((3 : Int32) &&& 31)) &&& (3 : Int32))), .val (.ref fo), .val (.int car), .unset, .unset, .unset, .unset, .unset] [(.ref fo), (.int car), (.ref lit18), (.ref a), (.ref lit17), (.ref kd), (.int p3), (.ref q), (.ref q)])) _
    refine st19.trans ?_
    show Steps p.tables e below (T19.setTop (mkF m 167 #[.val (.int p0), .val (.int p1), .val (.int p2), .val (.int p3), .val (.int (1 : Int32)), .val (.ref a), .val (.ref kd), .val (.int ((p3 >>> ((3 : Int32) &&& 31)) &&& (3 : Int32))), .val (.ref fo), .val (.int car), .unset, .unset, .unset, .unset, .unset] [(.ref q)])) _
    refine XS.astore X19.here hx rfl (hb hby at_167) rfl rfl (l' := #[.val (.int p0), .val (.int p1), .val (.int p2), .val (.int p3), .val (.int (1 : Int32)), .val (.ref a), .val (.ref kd), .val (.int ((p3 >>> ((3 : Int32) &&& 31)) &&& (3 : Int32))), .val (.ref fo), .val (.int car), .val (.ref q), .unset, .unset, .unset, .unset]) rfl ?_
    show Steps p.tables e below (T19.setTop (mkF m 169 #[.val (.int p0), .val (.int p1), .val (.int p2), .val (.int p3), .val (.int (1 : Int32)), .val (.ref a), .val (.ref kd), .val (.int ((p3 >>> ((3 : Int32) &&& 31)) &&& (3 : Int32))), .val (.ref fo), .val (.int car), .val (.ref q), .unset, .unset, .unset, .unset] [])) _
    refine XS.iloadN X19.here hx rfl (hb hby at_169) rfl ?_
    show Steps p.tables e below (T19.setTop (mkF m 170 #[.val (.int p0), .val (.int p1), .val (.int p2), .val (.int p3), .val (.int (1 : Int32)), .val (.ref a), .val (.ref kd), .val (.int ((p3 >>> ((3 : Int32) &&& 31)) &&& (3 : Int32))), .val (.ref fo), .val (.int car), .val (.ref q), .unset, .unset, .unset, .unset] [(.int p3)])) _
    refine XS.bipush X19.here hx rfl (hb hby at_170) ?_
    show Steps p.tables e below (T19.setTop (mkF m 172 #[.val (.int p0), .val (.int p1), .val (.int p2), .val (.int p3), .val (.int (1 : Int32)), .val (.ref a), .val (.ref kd), .val (.int ((p3 >>> ((3 : Int32) &&& 31)) &&& (3 : Int32))), .val (.ref fo), .val (.int car), .val (.ref q), .unset, .unset, .unset, .unset] [(.int (6 : Int32)), (.int p3)])) _
    refine XS.ishr X19.here hx rfl (hb hby at_172) rfl ?_
    show Steps p.tables e below (T19.setTop (mkF m 173 #[.val (.int p0), .val (.int p1), .val (.int p2), .val (.int p3), .val (.int (1 : Int32)), .val (.ref a), .val (.ref kd), .val (.int ((p3 >>> ((3 : Int32) &&& 31)) &&& (3 : Int32))), .val (.ref fo), .val (.int car), .val (.ref q), .unset, .unset, .unset, .unset] [(.int (p3 >>> ((6 : Int32) &&& 31)))])) _
    refine XS.iconst X19.here hx rfl (hb hby at_173) ?_
    show Steps p.tables e below (T19.setTop (mkF m 174 #[.val (.int p0), .val (.int p1), .val (.int p2), .val (.int p3), .val (.int (1 : Int32)), .val (.ref a), .val (.ref kd), .val (.int ((p3 >>> ((3 : Int32) &&& 31)) &&& (3 : Int32))), .val (.ref fo), .val (.int car), .val (.ref q), .unset, .unset, .unset, .unset] [(.int (1 : Int32)), (.int (p3 >>> ((6 : Int32) &&& 31)))])) _
    refine XS.iand X19.here hx rfl (hb hby at_174) rfl ?_
    refine st20 _ ?_
    show Steps p.tables e below (T20.setTop (mkF m 183 #[.val (.int p0), .val (.int p1), .val (.int p2), .val (.int p3), .val (.int (1 : Int32)), .val (.ref a), .val (.ref kd), .val (.int ((p3 >>> ((3 : Int32) &&& 31)) &&& (3 : Int32))), .val (.ref fo), .val (.int car), .val (.ref q), .unset, .unset, .unset, .unset] [(.int art)])) _
    refine XS.istore X20.here hx rfl (hb hby at_183) rfl (l' := #[.val (.int p0), .val (.int p1), .val (.int p2), .val (.int p3), .val (.int (1 : Int32)), .val (.ref a), .val (.ref kd), .val (.int ((p3 >>> ((3 : Int32) &&& 31)) &&& (3 : Int32))), .val (.ref fo), .val (.int car), .val (.ref q), .val (.int art), .unset, .unset, .unset]) rfl ?_
    show Steps p.tables e below (T20.setTop (mkF m 185 #[.val (.int p0), .val (.int p1), .val (.int p2), .val (.int p3), .val (.int (1 : Int32)), .val (.ref a), .val (.ref kd), .val (.int ((p3 >>> ((3 : Int32) &&& 31)) &&& (3 : Int32))), .val (.ref fo), .val (.int car), .val (.ref q), .val (.int art), .unset, .unset, .unset] [])) _
    refine st21 _ ?_
    show Steps p.tables e below (T21.setTop (mkF m 188 #[.val (.int p0), .val (.int p1), .val (.int p2), .val (.int p3), .val (.int (1 : Int32)), .val (.ref a), .val (.ref kd), .val (.int ((p3 >>> ((3 : Int32) &&& 31)) &&& (3 : Int32))), .val (.ref fo), .val (.int car), .val (.ref q), .val (.int art), .unset, .unset, .unset] [(.ref a2)])) _
    refine XS.dup X21.here hx rfl (hb hby at_188) rfl rfl ?_
    show Steps p.tables e below (T21.setTop (mkF m 189 #[.val (.int p0), .val (.int p1), .val (.int p2), .val (.int p3), .val (.int (1 : Int32)), .val (.ref a), .val (.ref kd), .val (.int ((p3 >>> ((3 : Int32) &&& 31)) &&& (3 : Int32))), .val (.ref fo), .val (.int car), .val (.ref q), .val (.int art), .unset, .unset, .unset] [(.ref a2), (.ref a2)])) _
    refine st22.trans ?_
    show Steps p.tables e below (T22.setTop (mkF m 192 #[.val (.int p0), .val (.int p1), .val (.int p2), .val (.int p3), .val (.int (1 : Int32)), .val (.ref a), .val (.ref kd), .val (.int ((p3 >>> ((3 : Int32) &&& 31)) &&& (3 : Int32))), .val (.ref fo), .val (.int car), .val (.ref q), .val (.int art), .unset, .unset, .unset] [(.ref a2)])) _
    refine XS.astore X22.here hx rfl (hb hby at_192) rfl rfl (l' := #[.val (.int p0), .val (.int p1), .val (.int p2), .val (.int p3), .val (.int (1 : Int32)), .val (.ref a), .val (.ref kd), .val (.int ((p3 >>> ((3 : Int32) &&& 31)) &&& (3 : Int32))), .val (.ref fo), .val (.int car), .val (.ref q), .val (.int art), .val (.ref a2), .unset, .unset]) rfl ?_
    show Steps p.tables e below (T22.setTop (mkF m 194 #[.val (.int p0), .val (.int p1), .val (.int p2), .val (.int p3), .val (.int (1 : Int32)), .val (.ref a), .val (.ref kd), .val (.int ((p3 >>> ((3 : Int32) &&& 31)) &&& (3 : Int32))), .val (.ref fo), .val (.int car), .val (.ref q), .val (.int art), .val (.ref a2), .unset, .unset] [])) _
    refine XS.aload X22.here hx rfl (hb hby at_194) rfl rfl ?_
    show Steps p.tables e below (T22.setTop (mkF m 196 #[.val (.int p0), .val (.int p1), .val (.int p2), .val (.int p3), .val (.int (1 : Int32)), .val (.ref a), .val (.ref kd), .val (.int ((p3 >>> ((3 : Int32) &&& 31)) &&& (3 : Int32))), .val (.ref fo), .val (.int car), .val (.ref q), .val (.int art), .val (.ref a2), .unset, .unset] [(.ref a2)])) _
    refine XS.iload X22.here hx rfl (hb hby at_196) rfl ?_
    show Steps p.tables e below (T22.setTop (mkF m 198 #[.val (.int p0), .val (.int p1), .val (.int p2), .val (.int p3), .val (.int (1 : Int32)), .val (.ref a), .val (.ref kd), .val (.int ((p3 >>> ((3 : Int32) &&& 31)) &&& (3 : Int32))), .val (.ref fo), .val (.int car), .val (.ref q), .val (.int art), .val (.ref a2), .unset, .unset] [(.int art), (.ref a2)])) _
    refine st23 _ ?_
    show Steps p.tables e below (T23.setTop (mkF m 201 #[.val (.int p0), .val (.int p1), .val (.int p2), .val (.int p3), .val (.int (1 : Int32)), .val (.ref a), .val (.ref kd), .val (.int ((p3 >>> ((3 : Int32) &&& 31)) &&& (3 : Int32))), .val (.ref fo), .val (.int car), .val (.ref q), .val (.int art), .val (.ref a2), .unset, .unset] [(.ref x2), (.ref a2)])) _
    refine st24.trans ?_
    show Steps p.tables e below (T24.setTop (mkF m 206 #[.val (.int p0), .val (.int p1), .val (.int p2), .val (.int p3), .val (.int (1 : Int32)), .val (.ref a), .val (.ref kd), .val (.int ((p3 >>> ((3 : Int32) &&& 31)) &&& (3 : Int32))), .val (.ref fo), .val (.int car), .val (.ref q), .val (.int art), .val (.ref a2), .unset, .unset] [(.int (1 : Int32))])) _
    refine XS.pop X24.here hx rfl (hb hby at_206) rfl rfl ?_
    show Steps p.tables e below (T24.setTop (mkF m 207 #[.val (.int p0), .val (.int p1), .val (.int p2), .val (.int p3), .val (.int (1 : Int32)), .val (.ref a), .val (.ref kd), .val (.int ((p3 >>> ((3 : Int32) &&& 31)) &&& (3 : Int32))), .val (.ref fo), .val (.int car), .val (.ref q), .val (.int art), .val (.ref a2), .unset, .unset] [])) _
    refine st25 _ ?_
    show Steps p.tables e below (T25.setTop (mkF m 210 #[.val (.int p0), .val (.int p1), .val (.int p2), .val (.int p3), .val (.int (1 : Int32)), .val (.ref a), .val (.ref kd), .val (.int ((p3 >>> ((3 : Int32) &&& 31)) &&& (3 : Int32))), .val (.ref fo), .val (.int car), .val (.ref q), .val (.int art), .val (.ref a2), .unset, .unset] [(.ref q2)])) _
    refine XS.dup X25.here hx rfl (hb hby at_210) rfl rfl ?_
    show Steps p.tables e below (T25.setTop (mkF m 211 #[.val (.int p0), .val (.int p1), .val (.int p2), .val (.int p3), .val (.int (1 : Int32)), .val (.ref a), .val (.ref kd), .val (.int ((p3 >>> ((3 : Int32) &&& 31)) &&& (3 : Int32))), .val (.ref fo), .val (.int car), .val (.ref q), .val (.int art), .val (.ref a2), .unset, .unset] [(.ref q2), (.ref q2)])) _
    refine XS.iconst X25.here hx rfl (hb hby at_211) ?_
    show Steps p.tables e below (T25.setTop (mkF m 212 #[.val (.int p0), .val (.int p1), .val (.int p2), .val (.int p3), .val (.int (1 : Int32)), .val (.ref a), .val (.ref kd), .val (.int ((p3 >>> ((3 : Int32) &&& 31)) &&& (3 : Int32))), .val (.ref fo), .val (.int car), .val (.ref q), .val (.int art), .val (.ref a2), .unset, .unset] [(.int (1 : Int32)), (.ref q2), (.ref q2)])) _
    refine st26 _ ?_
    show Steps p.tables e below (T26.setTop (mkF m 215 #[.val (.int p0), .val (.int p1), .val (.int p2), .val (.int p3), .val (.int (1 : Int32)), .val (.ref a), .val (.ref kd), .val (.int ((p3 >>> ((3 : Int32) &&& 31)) &&& (3 : Int32))), .val (.ref fo), .val (.int car), .val (.ref q), .val (.int art), .val (.ref a2), .unset, .unset] [(.ref kA), (.int (1 : Int32)), (.ref q2), (.ref q2)])) _
    refine st27 _ ?_
    show Steps p.tables e below (T27.setTop (mkF m 217 #[.val (.int p0), .val (.int p1), .val (.int p2), .val (.int p3), .val (.int (1 : Int32)), .val (.ref a), .val (.ref kd), .val (.int ((p3 >>> ((3 : Int32) &&& 31)) &&& (3 : Int32))), .val (.ref fo), .val (.int car), .val (.ref q), .val (.int art), .val (.ref a2), .unset, .unset] [(.ref lit27), (.ref kA), (.int (1 : Int32)), (.ref q2), (.ref q2)])) _
    refine XS.aload X27.here hx rfl (hb hby at_217) rfl rfl ?_
    show Steps p.tables e below (T27.setTop (mkF m 219 #[.val (.int p0), .val (.int p1), .val (.int p2), .val (.int p3), .val (.int (1 : Int32)), .val (.ref a), .val (.ref kd), .val (.int ((p3 >>> ((3 : Int32) &&& 31)) &&& (3 : Int32))), .val (.ref fo), .val (.int car), .val (.ref q), .val (.int art), .val (.ref a2), .unset, .unset] [(.ref a2), (.ref lit27), (.ref kA), (.int (1 : Int32)), (.ref q2), (.ref q2)])) _
    refine st28 _ ?_
    show Steps p.tables e below (T28.setTop (mkF m 221 #[.val (.int p0), .val (.int p1), .val (.int p2), .val (.int p3), .val (.int (1 : Int32)), .val (.ref a), .val (.ref kd), .val (.int ((p3 >>> ((3 : Int32) &&& 31)) &&& (3 : Int32))), .val (.ref fo), .val (.int car), .val (.ref q), .val (.int art), .val (.ref a2), .unset, .unset] [(.ref lit28), (.ref a2), (.ref lit27), (.ref kA), (.int (1 : Int32)), (.ref q2), (.ref q2)])) _
    refine XS.iconst X28.here hx rfl (hb hby at_221) ?_
    show Steps p.tables e below (T28.setTop (mkF m 222 #[.val (.int p0), .val (.int p1), .val (.int p2), .val (.int p3), .val (.int (1 : Int32)), .val (.ref a), .val (.ref kd), .val (.int ((p3 >>> ((3 : Int32) &&& 31)) &&& (3 : Int32))), .val (.ref fo), .val (.int car), .val (.ref q), .val (.int art), .val (.ref a2), .unset, .unset] [(.int (0 : Int32)), (.ref lit28), (.ref a2), (.ref lit27), (.ref kA), (.int (1 : Int32)), (.ref q2), (.ref q2)])) _
    refine st29 _ ?_
    show Steps p.tables e below (T29.setTop (mkF m 225 #[.val (.int p0), .val (.int p1), .val (.int p2), .val (.int p3), .val (.int (1 : Int32)), .val (.ref a), .val (.ref kd), .val (.int ((p3 >>> ((3 : Int32) &&& 31)) &&& (3 : Int32))), .val (.ref fo), .val (.int car), .val (.ref q), .val (.int art), .val (.ref a2), .unset, .unset] [(.ref f0), (.int (0 : Int32)), (.ref lit28), (.ref a2), (.ref lit27), (.ref kA), (.int (1 : Int32)), (.ref q2), (.ref q2)])) _
    refine st30.trans ?_
    show Steps p.tables e below (T30.setTop (mkF m 228 #[.val (.int p0), .val (.int p1), .val (.int p2), .val (.int p3), .val (.int (1 : Int32)), .val (.ref a), .val (.ref kd), .val (.int ((p3 >>> ((3 : Int32) &&& 31)) &&& (3 : Int32))), .val (.ref fo), .val (.int car), .val (.ref q), .val (.int art), .val (.ref a2), .unset, .unset] [(.ref q2)])) _
    refine XS.astore X30.here hx rfl (hb hby at_228) rfl rfl (l' := #[.val (.int p0), .val (.int p1), .val (.int p2), .val (.int p3), .val (.int (1 : Int32)), .val (.ref a), .val (.ref kd), .val (.int ((p3 >>> ((3 : Int32) &&& 31)) &&& (3 : Int32))), .val (.ref fo), .val (.int car), .val (.ref q), .val (.int art), .val (.ref a2), .val (.ref q2), .unset]) rfl ?_
    show Steps p.tables e below (T30.setTop (mkF m 230 #[.val (.int p0), .val (.int p1), .val (.int p2), .val (.int p3), .val (.int (1 : Int32)), .val (.ref a), .val (.ref kd), .val (.int ((p3 >>> ((3 : Int32) &&& 31)) &&& (3 : Int32))), .val (.ref fo), .val (.int car), .val (.ref q), .val (.int art), .val (.ref a2), .val (.ref q2), .unset] [])) _
    refine XS.aload X30.here hx rfl (hb hby at_230) rfl rfl ?_
    show Steps p.tables e below (T30.setTop (mkF m 232 #[.val (.int p0), .val (.int p1), .val (.int p2), .val (.int p3), .val (.int (1 : Int32)), .val (.ref a), .val (.ref kd), .val (.int ((p3 >>> ((3 : Int32) &&& 31)) &&& (3 : Int32))), .val (.ref fo), .val (.int car), .val (.ref q), .val (.int art), .val (.ref a2), .val (.ref q2), .unset] [(.ref kd)])) _
    refine st31 _ ?_
    refine st32 _ ?_
    show Steps p.tables e below (T32.setTop (mkF m 249 #[.val (.int p0), .val (.int p1), .val (.int p2), .val (.int p3), .val (.int (1 : Int32)), .val (.ref a), .val (.ref kd), .val (.int ((p3 >>> ((3 : Int32) &&& 31)) &&& (3 : Int32))), .val (.ref fo), .val (.int car), .val (.ref q), .val (.int art), .val (.ref a2), .val (.ref q2), .unset] [(.int eh)])) _
    refine XS.istore X32.here hx rfl (hb hby at_249) rfl (l' := #[.val (.int p0), .val (.int p1), .val (.int p2), .val (.int p3), .val (.int (1 : Int32)), .val (.ref a), .val (.ref kd), .val (.int ((p3 >>> ((3 : Int32) &&& 31)) &&& (3 : Int32))), .val (.ref fo), .val (.int car), .val (.ref q), .val (.int art), .val (.ref a2), .val (.ref q2), .val (.int eh)]) rfl ?_
    show Steps p.tables e below (T32.setTop (mkF m 251 #[.val (.int p0), .val (.int p1), .val (.int p2), .val (.int p3), .val (.int (1 : Int32)), .val (.ref a), .val (.ref kd), .val (.int ((p3 >>> ((3 : Int32) &&& 31)) &&& (3 : Int32))), .val (.ref fo), .val (.int car), .val (.ref q), .val (.int art), .val (.ref a2), .val (.ref q2), .val (.int eh)] [])) _
    refine XS.aload X32.here hx rfl (hb hby at_251) rfl rfl ?_
    show Steps p.tables e below (T32.setTop (mkF m 253 #[.val (.int p0), .val (.int p1), .val (.int p2), .val (.int p3), .val (.int (1 : Int32)), .val (.ref a), .val (.ref kd), .val (.int ((p3 >>> ((3 : Int32) &&& 31)) &&& (3 : Int32))), .val (.ref fo), .val (.int car), .val (.ref q), .val (.int art), .val (.ref a2), .val (.ref q2), .val (.int eh)] [(.ref q)])) _
    refine st34.trans ?_
    show Steps p.tables e below (T34.setTop (mkF m 256 #[.val (.int p0), .val (.int p1), .val (.int p2), .val (.int p3), .val (.int (1 : Int32)), .val (.ref a), .val (.ref kd), .val (.int ((p3 >>> ((3 : Int32) &&& 31)) &&& (3 : Int32))), .val (.ref fo), .val (.int car), .val (.ref q), .val (.int art), .val (.ref a2), .val (.ref q2), .val (.int eh)] [(.int p0)])) _
    refine XS.iloadN X34.here hx rfl (hb hby at_256) rfl ?_
    show Steps p.tables e below (T34.setTop (mkF m 257 #[.val (.int p0), .val (.int p1), .val (.int p2), .val (.int p3), .val (.int (1 : Int32)), .val (.ref a), .val (.ref kd), .val (.int ((p3 >>> ((3 : Int32) &&& 31)) &&& (3 : Int32))), .val (.ref fo), .val (.int car), .val (.ref q), .val (.int art), .val (.ref a2), .val (.ref q2), .val (.int eh)] [(.int p0), (.int p0)])) _
    refine XS.icmpNo X34.here hx rfl (hb hby at_257) rfl (teq (rfl : p0 = p0)).2 ?_
    show Steps p.tables e below (T34.setTop (mkF m 260 #[.val (.int p0), .val (.int p1), .val (.int p2), .val (.int p3), .val (.int (1 : Int32)), .val (.ref a), .val (.ref kd), .val (.int ((p3 >>> ((3 : Int32) &&& 31)) &&& (3 : Int32))), .val (.ref fo), .val (.int car), .val (.ref q), .val (.int art), .val (.ref a2), .val (.ref q2), .val (.int eh)] [])) _
    refine XS.aload X34.here hx rfl (hb hby at_260) rfl rfl ?_
    show Steps p.tables e below (T34.setTop (mkF m 262 #[.val (.int p0), .val (.int p1), .val (.int p2), .val (.int p3), .val (.int (1 : Int32)), .val (.ref a), .val (.ref kd), .val (.int ((p3 >>> ((3 : Int32) &&& 31)) &&& (3 : Int32))), .val (.ref fo), .val (.int car), .val (.ref q), .val (.int art), .val (.ref a2), .val (.ref q2), .val (.int eh)] [(.ref q2)])) _
    refine st35.trans ?_
    show Steps p.tables e below (T35.setTop (mkF m 265 #[.val (.int p0), .val (.int p1), .val (.int p2), .val (.int p3), .val (.int (1 : Int32)), .val (.ref a), .val (.ref kd), .val (.int ((p3 >>> ((3 : Int32) &&& 31)) &&& (3 : Int32))), .val (.ref fo), .val (.int car), .val (.ref q), .val (.int art), .val (.ref a2), .val (.ref q2), .val (.int eh)] [(.int art)])) _
    refine XS.iload X35.here hx rfl (hb hby at_265) rfl ?_
    show Steps p.tables e below (T35.setTop (mkF m 267 #[.val (.int p0), .val (.int p1), .val (.int p2), .val (.int p3), .val (.int (1 : Int32)), .val (.ref a), .val (.ref kd), .val (.int ((p3 >>> ((3 : Int32) &&& 31)) &&& (3 : Int32))), .val (.ref fo), .val (.int car), .val (.ref q), .val (.int art), .val (.ref a2), .val (.ref q2), .val (.int eh)] [(.int art), (.int art)])) _
    refine XS.icmpNo X35.here hx rfl (hb hby at_267) rfl (teq (rfl : art = art)).2 ?_
    show Steps p.tables e below (T35.setTop (mkF m 270 #[.val (.int p0), .val (.int p1), .val (.int p2), .val (.int p3), .val (.int (1 : Int32)), .val (.ref a), .val (.ref kd), .val (.int ((p3 >>> ((3 : Int32) &&& 31)) &&& (3 : Int32))), .val (.ref fo), .val (.int car), .val (.ref q), .val (.int art), .val (.ref a2), .val (.ref q2), .val (.int eh)] [])) _
    refine XS.aload X35.here hx rfl (hb hby at_270) rfl rfl ?_
    show Steps p.tables e below (T35.setTop (mkF m 272 #[.val (.int p0), .val (.int p1), .val (.int p2), .val (.int p3), .val (.int (1 : Int32)), .val (.ref a), .val (.ref kd), .val (.int ((p3 >>> ((3 : Int32) &&& 31)) &&& (3 : Int32))), .val (.ref fo), .val (.int car), .val (.ref q), .val (.int art), .val (.ref a2), .val (.ref q2), .val (.int eh)] [(.ref q2)])) _
    refine XS.aload X35.here hx rfl (hb hby at_272) rfl rfl ?_
    show Steps p.tables e below (T35.setTop (mkF m 274 #[.val (.int p0), .val (.int p1), .val (.int p2), .val (.int p3), .val (.int (1 : Int32)), .val (.ref a), .val (.ref kd), .val (.int ((p3 >>> ((3 : Int32) &&& 31)) &&& (3 : Int32))), .val (.ref fo), .val (.int car), .val (.ref q), .val (.int art), .val (.ref a2), .val (.ref q2), .val (.int eh)] [(.ref q), (.ref q2)])) _
    refine st36.trans ?_
    show Steps p.tables e below (T36.setTop (mkF m 277 #[.val (.int p0), .val (.int p1), .val (.int p2), .val (.int p3), .val (.int (1 : Int32)), .val (.ref a), .val (.ref kd), .val (.int ((p3 >>> ((3 : Int32) &&& 31)) &&& (3 : Int32))), .val (.ref fo), .val (.int car), .val (.ref q), .val (.int art), .val (.ref a2), .val (.ref q2), .val (.int eh)] [(.int rb1)])) _
    refine XS.iload X36.here hx rfl (hb hby at_277) rfl ?_
    show Steps p.tables e below (T36.setTop (mkF m 279 #[.val (.int p0), .val (.int p1), .val (.int p2), .val (.int p3), .val (.int (1 : Int32)), .val (.ref a), .val (.ref kd), .val (.int ((p3 >>> ((3 : Int32) &&& 31)) &&& (3 : Int32))), .val (.ref fo), .val (.int car), .val (.ref q), .val (.int art), .val (.ref a2), .val (.ref q2), .val (.int eh)] [(.int eh), (.int rb1)])) _
    refine XS.icmpNo X36.here hx rfl (hb hby at_279) rfl (teq (own_fin rel_rb1 hv32)).2 ?_
    show Steps p.tables e below (T36.setTop (mkF m 282 #[.val (.int p0), .val (.int p1), .val (.int p2), .val (.int p3), .val (.int (1 : Int32)), .val (.ref a), .val (.ref kd), .val (.int ((p3 >>> ((3 : Int32) &&& 31)) &&& (3 : Int32))), .val (.ref fo), .val (.int car), .val (.ref q), .val (.int art), .val (.ref a2), .val (.ref q2), .val (.int eh)] [])) _
    refine XS.iconst X36.here hx rfl (hb hby at_282) ?_
    show Steps p.tables e below (T36.setTop (mkF m 283 #[.val (.int p0), .val (.int p1), .val (.int p2), .val (.int p3), .val (.int (1 : Int32)), .val (.ref a), .val (.ref kd), .val (.int ((p3 >>> ((3 : Int32) &&& 31)) &&& (3 : Int32))), .val (.ref fo), .val (.int car), .val (.ref q), .val (.int art), .val (.ref a2), .val (.ref q2), .val (.int eh)] [(.int (1 : Int32))])) _
    refine XS.goto X36.here hx rfl (pc0 := 283) (pc' := 287) rfl (hb hby at_283) (by decide) (by decide) ?_
    show Steps p.tables e below (T36.setTop (mkF m 287 #[.val (.int p0), .val (.int p1), .val (.int p2), .val (.int p3), .val (.int (1 : Int32)), .val (.ref a), .val (.ref kd), .val (.int ((p3 >>> ((3 : Int32) &&& 31)) &&& (3 : Int32))), .val (.ref fo), .val (.int car), .val (.ref q), .val (.int art), .val (.ref a2), .val (.ref q2), .val (.int eh)] [(.int (1 : Int32))])) _
    exact retN X36 hx (t := .boolean) Bd.returns (by simp) (hb hby at_287) hr
  · show own_QL n0 _ T36.heap _
    rw [e36]
    exact ⟨rfl, N30⟩
set_option maxRecDepth 65536 in
set_option maxHeartbeats 40000000 in
theorem own_law1 (l : Launch) (Z : State) (a0 : Array Value) (hw : ∀ d ∈ tables_1, d.before a0 Z = true) (ws : List Jvm.Cond) (D : Addr) (cD : Cell) (ich : Addr) (icc : Cell) (kA : Addr) (kS : Addr) (f0 : Addr) (f1 : Addr) (f2 : Addr) (f3 : Addr) (p0 p1 p2 p3 : Int32) (h0 : Heap) (n0 : Nat) (O0 : Old Z n0 h0) (K : own_W Z D cD ich icc kA kS f0 f1 f2 f3) (hc : ((p3 &&& (3 : Int32)) % (3 : Int32)) = (1 : Int32)) :
    MetFree l x (head1 (Jvm.Cond.code x code maxLocals ret :: ws) room_1) (fun aa_ U_ => aa_ = #[(.int p0), (.int p1), (.int p2), (.int p3)] ∧ Z.Warmed39 U_.vm ∧ U_.heap = h0) (fun _ _ _ _ _ => True) (fun _ U_ oo_ UU_ => ∃ vv_ LL_, oo_ = .returned vv_ ∧ own_QL n0 vv_ UU_.heap LL_ ∧ ReturnedEndW U_ oo_ UU_ LL_ room_1.cells room_1.slots) := by
  have KK := K
  obtain ⟨SD, AD0, zD, SH, SC, AC0, zC, vC, SA, SS, neAS, S0, S1, S2, S3⟩ := KK
  have wS := own_wS hw
  refine MetFree.of_bodySF (plainFor_of_name own_pn9) hisR ?_
  intro p e s m args below meth c s₁ Bd hml0 hP hK
  obtain ⟨rfl, hZ, hh⟩ := hP
  have hx := Bd.exec
  have hby := Bd.bytes
  have hml : c.maxLocals = 15 := hml0
  have hown : s.vm.findClass "com/example/witnesseth/witnesseth/HeadingLineArticlePinLaw" = some m.cls := findClass_of_methodNamed Bd.named
  have hnm := (name_of_methodNamed Bd.named Bd.method).1
  have X0 : Stand p l e room_1 s m #[(.int p0), (.int p1), (.int p2), (.int p3)] below meth c s₁ [] 0 0 := Stand.of_body Bd
  have e0 : s₁.heap = h0 := by rw [← hh, Bd.state]; rfl
  have N0 := Fr.nil n0
  have pre0 : ∀ tt_, Steps p.tables e below (s₁.setTop (mkF m 0 #[.val (.int p0), .val (.int p1), .val (.int p2), .val (.int p3), .unset, .unset, .unset, .unset, .unset, .unset, .unset, .unset, .unset, .unset, .unset] [])) tt_ → Steps p.tables e below (s₁.setTop (entryFrame m #[(.int p0), (.int p1), (.int p2), (.int p3)] maxLocals)) tt_ := fun tt_ kk_ => castTop (own_ef0 m p0 p1 p2 p3) kk_
  obtain ⟨T1, h1, X1, e1, E1, A1, D1, -, st1⟩ := newO X0 hx hZ hown (hw _ (List.mem_of_getElem? (i := 0) rfl)) (hw _ (List.mem_of_getElem? (i := 1) rfl)) (hw _ (List.mem_of_getElem? (i := 2) rfl)) e0 (g := (mkF m 9 #[.val (.int p0), .val (.int p1), .val (.int p2), .val (.int p3), .val (.int (2 : Int32)), .unset, .unset, .unset, .unset, .unset, .unset, .unset, .unset, .unset, .unset] [])) rfl (hb hby at_9) (by decide) (by decide)
  obtain ⟨a, g1⟩ : ∃ z, z = h0.size := ⟨_, rfl⟩
  have g_a : n0 ≤ a := Nat.le_trans (Nat.le_trans (Nat.le_of_eq O0.1.symm) O0.2.1) (Nat.le_of_eq g1.symm)
  rw [← g1] at A1 D1 st1
  have O1 := O0.ext E1
  have F1_modCount : Fld Z h1 a "java/util/AbstractList" "modCount" "I" (.int (0 : Int32)) := D1 (Or.inl (hw _ (List.mem_of_getElem? (i := 22) rfl))) (ty := .int) (by decide)
  have F1_elementData : Fld Z h1 a "java/util/ArrayList" "elementData" "[Ljava/lang/Object;" .null := D1 (Or.inl (hw _ (List.mem_of_getElem? (i := 25) rfl))) (ty := (.array (.object "java/lang/Object"))) (by decide)
  have F1_size : Fld Z h1 a "java/util/ArrayList" "size" "I" (.int (0 : Int32)) := D1 (Or.inl (hw _ (List.mem_of_getElem? (i := 45) rfl))) (ty := .int) (by decide)
  obtain ⟨_, _, ⟨T2, L2, k2, n2⟩, -, X2, ⟨Lc2, hQ2, l2, y2, z2⟩, st2⟩ := X1.specialBack hx (y := (⟨"java/util/ArrayList", "<init>", "()V"⟩ : MethodName)) rfl hown (mvT hZ (hw _ (List.mem_of_getElem? (i := 3) rfl))) (mvT hZ (hw _ (List.mem_of_getElem? (i := 4) rfl))) (mvT hZ (hw _ (List.mem_of_getElem? (i := 5) rfl))) (by decide) (backOf (W := 1) (own_ali l Z a0 hw [] a D cD ich icc kA kS f0 f1 f2 f3 h1 n0 O1 K A1 F1_modCount F1_elementData F1_size g_a) hZ (hw _ (List.mem_of_getElem? (i := 5) rfl)) (hw _ (List.mem_of_getElem? (i := 2) rfl)) (by decide) (by decide)) (g := (mkF m 13 #[.val (.int p0), .val (.int p1), .val (.int p2), .val (.int p3), .val (.int (2 : Int32)), .unset, .unset, .unset, .unset, .unset, .unset, .unset, .unset, .unset, .unset] [(.ref a), (.ref a)])) rfl (by rw [hml]; rfl) (Steps.refl _) (a := a) (argsL := []) (rest := [(.ref a)]) (lenOf own_pd0 rfl) rfl (by show 2 * 0 + _ ≤ _; exact Nat.le_of_eq rfl) (hb hby at_13) (fun _ _ => ⟨rfl, e1, (by decide : 1 + 0 ≤ _), (by decide : 3 + 0 ≤ _)⟩)
  dsimp only [Pt.U, Pt.locs, Pt.cells, Pt.slots] at X2 l2 y2 z2 st2 hQ2
  subst l2 y2 z2
  obtain ⟨rfl, N2q, O2, K2, p2_E_a, p2_F_a_modCount, p2_F_a_elementData, p2_F_a_size⟩ := hQ2
  have N2 := Fr.app N0 N2q
  obtain ⟨_, _, ⟨T3, L3, k3, n3⟩, -, X3, ⟨Lc3, hQ3, l3, y3, z3⟩, st3⟩ := Jvm.LawKit.callS X2 hx (y := (⟨"java/lang/Integer", "valueOf", "(I)Ljava/lang/Integer;"⟩ : MethodName)) hown (mvT hZ (hw _ (List.mem_of_getElem? (i := 26) rfl))) (mvT hZ (hw _ (List.mem_of_getElem? (i := 27) rfl))) (mvT hZ (hw _ (List.mem_of_getElem? (i := 28) rfl))) (mvT hZ (hw _ (List.mem_of_getElem? (i := 29) rfl))) (by decide) (backOf (W := 1) (own_val l Z a0 hw [] p0 D cD ich icc kA kS f0 f1 f2 f3 T2.heap n0 O2 K ) hZ (hw _ (List.mem_of_getElem? (i := 29) rfl)) (hw _ (List.mem_of_getElem? (i := 28) rfl)) (by decide) (by decide)) (g := (mkF m 21 #[.val (.int p0), .val (.int p1), .val (.int p2), .val (.int p3), .val (.int (2 : Int32)), .val (.ref a), .unset, .unset, .unset, .unset, .unset, .unset, .unset, .unset, .unset] [(.int p0), (.ref a)])) rfl (by rw [hml]; rfl) (argsL := [(.int p0)]) (rest := [(.ref a)]) (lenOf own_pd9 rfl) rfl (by show 2 * 0 + _ ≤ _; exact Nat.le_of_eq rfl) (hb hby at_21) (fun _ _ => ⟨rfl, rfl, (by decide : 1 + 1 ≤ _), (by decide : 3 + 1 ≤ _)⟩)
  dsimp only [Pt.U, Pt.locs, Pt.cells, Pt.slots] at X3 l3 y3 z3 st3 hQ3
  subst l3 y3 z3
  obtain ⟨x1, rfl, N3q, O3, K3, p3_E_r, p3_F_r_value⟩ := hQ3
  have N3 := Fr.app N2 N3q
  have f3_E_a := p2_E_a.keep K3
  have f3_F_a_modCount := p2_F_a_modCount.keep K3 nin0
  have f3_F_a_elementData := p2_F_a_elementData.keep K3 nin0
  have f3_F_a_size := p2_F_a_size.keep K3 nin0
  have ne_x1_a : x1 ≠ a := ne_exa p3_E_r f3_E_a (by decide)
  obtain ⟨cq4, kq4, q4a, q4b, q4c⟩ := isOf hZ rfl f3_E_a
  obtain ⟨_, _, ⟨T4, L4, k4, n4⟩, -, X4, ⟨Lc4, hQ4, l4, y4, z4⟩, st4⟩ := X3.interfaceBack hx (xi := (⟨"java/util/List", "add", "(Ljava/lang/Object;)Z"⟩ : MethodName)) (y := (⟨"java/util/ArrayList", "add", "(Ljava/lang/Object;)Z"⟩ : MethodName)) hown (mvT hZ (hw _ (List.mem_of_getElem? (i := 33) rfl))) (mvT hZ (hw _ (List.mem_of_getElem? (i := 34) rfl))) (mvT hZ (hw _ (List.mem_of_getElem? (i := 35) rfl))) (mvT hZ (hw _ (List.mem_of_getElem? (i := 36) rfl))) (mvT hZ (hw _ (List.mem_of_getElem? (i := 37) rfl))) (mvT hZ (hw _ (List.mem_of_getElem? (i := 38) rfl))) (mvT hZ (hw _ (List.mem_of_getElem? (i := 39) rfl))) (mvT hZ (hw _ (List.mem_of_getElem? (i := 40) rfl))) (by decide) (backOf (W := 0) (own_add l Z a0 hw [] a x1 D cD ich icc kA kS f0 f1 f2 f3 T3.heap n0 O3 K f3_E_a f3_F_a_modCount f3_F_a_elementData f3_F_a_size g_a (Ins.of_exa p3_E_r (hw _ (List.mem_of_getElem? (i := 67) rfl)))) hZ (hw _ (List.mem_of_getElem? (i := 41) rfl)) (hw _ (List.mem_of_getElem? (i := 2) rfl)) (by decide) (by decide)) q4a q4b q4c (g := (mkF m 24 #[.val (.int p0), .val (.int p1), .val (.int p2), .val (.int p3), .val (.int (2 : Int32)), .val (.ref a), .unset, .unset, .unset, .unset, .unset, .unset, .unset, .unset, .unset] [(.ref x1), (.ref a)])) rfl (by rw [hml]; rfl) (Steps.refl _) (argsL := [(.ref x1)]) (rest := []) (lenOf own_pd10 rfl) rfl (by show 2 * 0 + _ ≤ _; exact Nat.le_of_eq rfl) (hb hby at_24) (fun _ _ => ⟨rfl, rfl, (by decide : 2 + 1 ≤ _), (by decide : 4 + 10 ≤ _)⟩)
  dsimp only [Pt.U, Pt.locs, Pt.cells, Pt.slots] at X4 l4 y4 z4 st4 hQ4
  subst l4 y4 z4
  obtain ⟨ea, rfl, N4q, O4, K4, p4_L_a, p4_fresh_ea⟩ := hQ4
  have N4 := Fr.app N3 N4q
  have ne_a_ea : a ≠ ea := Nat.ne_of_lt (Nat.lt_of_lt_of_le f3_E_a.lt p4_fresh_ea)
  have ne_x1_ea : x1 ≠ ea := Nat.ne_of_lt (Nat.lt_of_lt_of_le p3_E_r.lt p4_fresh_ea)
  have g_ea : n0 ≤ ea := Nat.le_trans (Nat.le_trans (Nat.le_of_eq O3.1.symm) O3.2.1) p4_fresh_ea
  have f4_E_x1 := p3_E_r.keep K4
  have f4_F_x1_value := p3_F_r_value.keep K4 (ninS ne_x1_a nin0)
  obtain ⟨_, _, ⟨T5, L5, k5, n5⟩, -, X5, ⟨Lc5, hQ5, l5, y5, z5⟩, st5⟩ := Jvm.LawKit.callS X4 hx (y := (⟨"java/lang/Integer", "valueOf", "(I)Ljava/lang/Integer;"⟩ : MethodName)) hown (mvT hZ (hw _ (List.mem_of_getElem? (i := 26) rfl))) (mvT hZ (hw _ (List.mem_of_getElem? (i := 27) rfl))) (mvT hZ (hw _ (List.mem_of_getElem? (i := 28) rfl))) (mvT hZ (hw _ (List.mem_of_getElem? (i := 29) rfl))) (by decide) (backOf (W := 1) (own_val l Z a0 hw [] p1 D cD ich icc kA kS f0 f1 f2 f3 T4.heap n0 O4 K ) hZ (hw _ (List.mem_of_getElem? (i := 29) rfl)) (hw _ (List.mem_of_getElem? (i := 28) rfl)) (by decide) (by decide)) (g := (mkF m 39 #[.val (.int p0), .val (.int p1), .val (.int p2), .val (.int p3), .val (.int (2 : Int32)), .val (.ref a), .unset, .unset, .unset, .unset, .unset, .unset, .unset, .unset, .unset] [(.int p1), (.ref a)])) rfl (by rw [hml]; rfl) (argsL := [(.int p1)]) (rest := [(.ref a)]) (lenOf own_pd9 rfl) rfl (by show 2 * 0 + _ ≤ _; exact Nat.le_of_eq rfl) (hb hby at_39) (fun _ _ => ⟨rfl, rfl, (by decide : 3 + 1 ≤ _), (by decide : 14 + 1 ≤ _)⟩)
  dsimp only [Pt.U, Pt.locs, Pt.cells, Pt.slots] at X5 l5 y5 z5 st5 hQ5
  subst l5 y5 z5
  obtain ⟨x2, rfl, N5q, O5, K5, p5_E_r, p5_F_r_value⟩ := hQ5
  have N5 := Fr.app N4 N5q
  have f5_E_x1 := f4_E_x1.keep K5
  have f5_F_x1_value := f4_F_x1_value.keep K5 nin0
  have f5_L_a := own_AL_keep p4_L_a K5 nin0 nin0
  have ne_x2_a : x2 ≠ a := ne_exa p5_E_r f5_L_a.1 (by decide)
  have ne_x2_ea : x2 ≠ ea := own_neEA p5_E_r (hw _ (List.mem_of_getElem? (i := 156) rfl)) f5_L_a
  obtain ⟨cq6, kq6, q6a, q6b, q6c⟩ := isOf hZ rfl f5_L_a.1
  obtain ⟨_, _, ⟨T6, L6, k6, n6⟩, -, X6, ⟨Lc6, hQ6, l6, y6, z6⟩, st6⟩ := X5.interfaceBack hx (xi := (⟨"java/util/List", "add", "(Ljava/lang/Object;)Z"⟩ : MethodName)) (y := (⟨"java/util/ArrayList", "add", "(Ljava/lang/Object;)Z"⟩ : MethodName)) hown (mvT hZ (hw _ (List.mem_of_getElem? (i := 33) rfl))) (mvT hZ (hw _ (List.mem_of_getElem? (i := 34) rfl))) (mvT hZ (hw _ (List.mem_of_getElem? (i := 35) rfl))) (mvT hZ (hw _ (List.mem_of_getElem? (i := 36) rfl))) (mvT hZ (hw _ (List.mem_of_getElem? (i := 37) rfl))) (mvT hZ (hw _ (List.mem_of_getElem? (i := 38) rfl))) (mvT hZ (hw _ (List.mem_of_getElem? (i := 39) rfl))) (mvT hZ (hw _ (List.mem_of_getElem? (i := 40) rfl))) (by decide) (backOf (W := 0) (own_addm1 l Z a0 hw [] a x2 ea (own_uv (fun _ => Value.null) 0 (.ref x1)) T5.heap n0 O5  f5_L_a g_a g_ea (Ins.of_exa p5_E_r (hw _ (List.mem_of_getElem? (i := 67) rfl)))) hZ (hw _ (List.mem_of_getElem? (i := 41) rfl)) (hw _ (List.mem_of_getElem? (i := 2) rfl)) (by decide) (by decide)) q6a q6b q6c (g := (mkF m 42 #[.val (.int p0), .val (.int p1), .val (.int p2), .val (.int p3), .val (.int (2 : Int32)), .val (.ref a), .unset, .unset, .unset, .unset, .unset, .unset, .unset, .unset, .unset] [(.ref x2), (.ref a)])) rfl (by rw [hml]; rfl) (Steps.refl _) (argsL := [(.ref x2)]) (rest := []) (lenOf own_pd10 rfl) rfl (by show 2 * 0 + _ ≤ _; exact Nat.le_of_eq rfl) (hb hby at_42) (fun _ _ => ⟨rfl, rfl, (by decide : 4 + 0 ≤ _), (by decide : 15 + 0 ≤ _)⟩)
  dsimp only [Pt.U, Pt.locs, Pt.cells, Pt.slots] at X6 l6 y6 z6 st6 hQ6
  subst l6 y6 z6
  obtain ⟨rfl, N6q, O6, K6, p6_L_a⟩ := hQ6
  have N6 := Fr.app N5 N6q
  have f6_E_x1 := f5_E_x1.keep K6
  have f6_F_x1_value := f5_F_x1_value.keep K6 (ninS ne_x1_a (ninS ne_x1_ea nin0))
  have f6_E_x2 := p5_E_r.keep K6
  have f6_F_x2_value := p5_F_r_value.keep K6 (ninS ne_x2_a (ninS ne_x2_ea nin0))
  obtain ⟨T7, kd, hv7, ⟨X7, e7⟩, st7⟩ : ∃ (T' : State) (kd : Addr), ((((p3 >>> ((2 : Int32) &&& 31)) &&& (1 : Int32)) = (0 : Int32) ∧ kd = kA) ∨ (¬ (((p3 >>> ((2 : Int32) &&& 31)) &&& (1 : Int32)) = (0 : Int32)) ∧ kd = kS)) ∧ own_Go X6 T6.heap T' ∧ ∀ target, Steps p.tables e below (T'.setTop (mkF m 83 #[.val (.int p0), .val (.int p1), .val (.int p2), .val (.int p3), .val (.int (2 : Int32)), .val (.ref a), .unset, .unset, .unset, .unset, .unset, .unset, .unset, .unset, .unset] [(.ref kd)])) target → Steps p.tables e below (T6.setTop (mkF m 71 #[.val (.int p0), .val (.int p1), .val (.int p2), .val (.int p3), .val (.int (2 : Int32)), .val (.ref a), .unset, .unset, .unset, .unset, .unset, .unset, .unset, .unset, .unset] [(.int ((p3 >>> ((2 : Int32) &&& 31)) &&& (1 : Int32)))])) target := by
    by_cases hf7 : ((p3 >>> ((2 : Int32) &&& 31)) &&& (1 : Int32)) = (0 : Int32)
    · obtain ⟨T8, X8, e8, st8⟩ := getS2 X6 hx hZ hown (host := "") (Or.inl (hw _ (List.mem_of_getElem? (i := 68) rfl))) Via.refl rfl (SA.ext O6.2) (g := (mkF m 80 #[.val (.int p0), .val (.int p1), .val (.int p2), .val (.int p3), .val (.int (2 : Int32)), .val (.ref a), .unset, .unset, .unset, .unset, .unset, .unset, .unset, .unset, .unset] [])) rfl (hb hby at_80)
      refine ⟨T8, kA, Or.inl ⟨hf7, rfl⟩, ⟨X8, e8⟩, fun target kgo_ => ?_⟩
      show Steps p.tables e below (T6.setTop (mkF m 71 #[.val (.int p0), .val (.int p1), .val (.int p2), .val (.int p3), .val (.int (2 : Int32)), .val (.ref a), .unset, .unset, .unset, .unset, .unset, .unset, .unset, .unset, .unset] [(.int ((p3 >>> ((2 : Int32) &&& 31)) &&& (1 : Int32)))])) _
      refine XS.ifYes X6.here hx rfl (pc0 := 71) (pc' := 80) rfl (hb hby at_71) rfl ((if0 _ _).trans (teq hf7).1) (by decide) (by decide) ?_
      show Steps p.tables e below (T6.setTop (mkF m 80 #[.val (.int p0), .val (.int p1), .val (.int p2), .val (.int p3), .val (.int (2 : Int32)), .val (.ref a), .unset, .unset, .unset, .unset, .unset, .unset, .unset, .unset, .unset] [])) _
      refine st8 _ ?_
      show Steps p.tables e below (T8.setTop (mkF m 83 #[.val (.int p0), .val (.int p1), .val (.int p2), .val (.int p3), .val (.int (2 : Int32)), .val (.ref a), .unset, .unset, .unset, .unset, .unset, .unset, .unset, .unset, .unset] [(.ref kA)])) _
      exact kgo_
    · obtain ⟨T9, X9, e9, st9⟩ := getS2 X6 hx hZ hown (host := "") (Or.inl (hw _ (List.mem_of_getElem? (i := 109) rfl))) Via.refl rfl (SS.ext O6.2) (g := (mkF m 74 #[.val (.int p0), .val (.int p1), .val (.int p2), .val (.int p3), .val (.int (2 : Int32)), .val (.ref a), .unset, .unset, .unset, .unset, .unset, .unset, .unset, .unset, .unset] [])) rfl (hb hby at_74)
      refine ⟨T9, kS, Or.inr ⟨hf7, rfl⟩, ⟨X9, e9⟩, fun target kgo_ => ?_⟩
      show Steps p.tables e below (T6.setTop (mkF m 71 #[.val (.int p0), .val (.int p1), .val (.int p2), .val (.int p3), .val (.int (2 : Int32)), .val (.ref a), .unset, .unset, .unset, .unset, .unset, .unset, .unset, .unset, .unset] [(.int ((p3 >>> ((2 : Int32) &&& 31)) &&& (1 : Int32)))])) _
      refine XS.ifNo X6.here hx rfl (hb hby at_71) rfl ((if0 _ _).trans (feq hf7).1) ?_
      show Steps p.tables e below (T6.setTop (mkF m 74 #[.val (.int p0), .val (.int p1), .val (.int p2), .val (.int p3), .val (.int (2 : Int32)), .val (.ref a), .unset, .unset, .unset, .unset, .unset, .unset, .unset, .unset, .unset] [])) _
      refine st9 _ ?_
      show Steps p.tables e below (T9.setTop (mkF m 77 #[.val (.int p0), .val (.int p1), .val (.int p2), .val (.int p3), .val (.int (2 : Int32)), .val (.ref a), .unset, .unset, .unset, .unset, .unset, .unset, .unset, .unset, .unset] [(.ref kS)])) _
      refine XS.goto X9.here hx rfl (pc0 := 77) (pc' := 83) rfl (hb hby at_77) (by decide) (by decide) ?_
      show Steps p.tables e below (T9.setTop (mkF m 83 #[.val (.int p0), .val (.int p1), .val (.int p2), .val (.int p3), .val (.int (2 : Int32)), .val (.ref a), .unset, .unset, .unset, .unset, .unset, .unset, .unset, .unset, .unset] [(.ref kS)])) _
      exact kgo_
  obtain ⟨T10, fo, hv10, ⟨X10, e10⟩, st10⟩ : ∃ (T' : State) (fo : Addr), ((((p3 >>> ((3 : Int32) &&& 31)) &&& (3 : Int32)) = (0 : Int32) ∧ fo = f0) ∨ (¬ (((p3 >>> ((3 : Int32) &&& 31)) &&& (3 : Int32)) = (0 : Int32)) ∧ ((((p3 >>> ((3 : Int32) &&& 31)) &&& (3 : Int32)) = (1 : Int32) ∧ fo = f1) ∨ (¬ (((p3 >>> ((3 : Int32) &&& 31)) &&& (3 : Int32)) = (1 : Int32)) ∧ ((((p3 >>> ((3 : Int32) &&& 31)) &&& (3 : Int32)) = (2 : Int32) ∧ fo = f2) ∨ (¬ (((p3 >>> ((3 : Int32) &&& 31)) &&& (3 : Int32)) = (2 : Int32)) ∧ fo = f3)))))) ∧ own_Go X7 T6.heap T' ∧ ∀ target, Steps p.tables e below (T'.setTop (mkF m 130 #[.val (.int p0), .val (.int p1), .val (.int p2), .val (.int p3), .val (.int (2 : Int32)), .val (.ref a), .val (.ref kd), .val (.int ((p3 >>> ((3 : Int32) &&& 31)) &&& (3 : Int32))), .unset, .unset, .unset, .unset, .unset, .unset, .unset] [(.ref fo)])) target → Steps p.tables e below (T7.setTop (mkF m 94 #[.val (.int p0), .val (.int p1), .val (.int p2), .val (.int p3), .val (.int (2 : Int32)), .val (.ref a), .val (.ref kd), .val (.int ((p3 >>> ((3 : Int32) &&& 31)) &&& (3 : Int32))), .unset, .unset, .unset, .unset, .unset, .unset, .unset] [(.int ((p3 >>> ((3 : Int32) &&& 31)) &&& (3 : Int32)))])) target := by
    by_cases hf10 : ((p3 >>> ((3 : Int32) &&& 31)) &&& (3 : Int32)) = (0 : Int32)
    · obtain ⟨T11, X11, e11, st11⟩ := getS2 X7 hx hZ hown (host := "") (Or.inl (hw _ (List.mem_of_getElem? (i := 71) rfl))) Via.refl e7 (S0.ext O6.2) (g := (mkF m 97 #[.val (.int p0), .val (.int p1), .val (.int p2), .val (.int p3), .val (.int (2 : Int32)), .val (.ref a), .val (.ref kd), .val (.int ((p3 >>> ((3 : Int32) &&& 31)) &&& (3 : Int32))), .unset, .unset, .unset, .unset, .unset, .unset, .unset] [])) rfl (hb hby at_97)
      refine ⟨T11, f0, Or.inl ⟨hf10, rfl⟩, ⟨X11, e11⟩, fun target kgo_ => ?_⟩
      show Steps p.tables e below (T7.setTop (mkF m 94 #[.val (.int p0), .val (.int p1), .val (.int p2), .val (.int p3), .val (.int (2 : Int32)), .val (.ref a), .val (.ref kd), .val (.int ((p3 >>> ((3 : Int32) &&& 31)) &&& (3 : Int32))), .unset, .unset, .unset, .unset, .unset, .unset, .unset] [(.int ((p3 >>> ((3 : Int32) &&& 31)) &&& (3 : Int32)))])) _
      refine XS.ifNo X7.here hx rfl (hb hby at_94) rfl ((if0 _ _).trans (teq hf10).2) ?_
      show Steps p.tables e below (T7.setTop (mkF m 97 #[.val (.int p0), .val (.int p1), .val (.int p2), .val (.int p3), .val (.int (2 : Int32)), .val (.ref a), .val (.ref kd), .val (.int ((p3 >>> ((3 : Int32) &&& 31)) &&& (3 : Int32))), .unset, .unset, .unset, .unset, .unset, .unset, .unset] [])) _
      refine st11 _ ?_
      show Steps p.tables e below (T11.setTop (mkF m 100 #[.val (.int p0), .val (.int p1), .val (.int p2), .val (.int p3), .val (.int (2 : Int32)), .val (.ref a), .val (.ref kd), .val (.int ((p3 >>> ((3 : Int32) &&& 31)) &&& (3 : Int32))), .unset, .unset, .unset, .unset, .unset, .unset, .unset] [(.ref f0)])) _
      refine XS.goto X11.here hx rfl (pc0 := 100) (pc' := 130) rfl (hb hby at_100) (by decide) (by decide) ?_
      show Steps p.tables e below (T11.setTop (mkF m 130 #[.val (.int p0), .val (.int p1), .val (.int p2), .val (.int p3), .val (.int (2 : Int32)), .val (.ref a), .val (.ref kd), .val (.int ((p3 >>> ((3 : Int32) &&& 31)) &&& (3 : Int32))), .unset, .unset, .unset, .unset, .unset, .unset, .unset] [(.ref f0)])) _
      exact kgo_
    · obtain ⟨T12, w12_0, hv12, ⟨X12, e12⟩, st12⟩ : ∃ (T' : State) (w12_0 : Addr), ((((p3 >>> ((3 : Int32) &&& 31)) &&& (3 : Int32)) = (1 : Int32) ∧ w12_0 = f1) ∨ (¬ (((p3 >>> ((3 : Int32) &&& 31)) &&& (3 : Int32)) = (1 : Int32)) ∧ ((((p3 >>> ((3 : Int32) &&& 31)) &&& (3 : Int32)) = (2 : Int32) ∧ w12_0 = f2) ∨ (¬ (((p3 >>> ((3 : Int32) &&& 31)) &&& (3 : Int32)) = (2 : Int32)) ∧ w12_0 = f3)))) ∧ own_Go X7 T6.heap T' ∧ ∀ target, Steps p.tables e below (T'.setTop (mkF m 130 #[.val (.int p0), .val (.int p1), .val (.int p2), .val (.int p3), .val (.int (2 : Int32)), .val (.ref a), .val (.ref kd), .val (.int ((p3 >>> ((3 : Int32) &&& 31)) &&& (3 : Int32))), .unset, .unset, .unset, .unset, .unset, .unset, .unset] [(.ref w12_0)])) target → Steps p.tables e below (T7.setTop (mkF m 106 #[.val (.int p0), .val (.int p1), .val (.int p2), .val (.int p3), .val (.int (2 : Int32)), .val (.ref a), .val (.ref kd), .val (.int ((p3 >>> ((3 : Int32) &&& 31)) &&& (3 : Int32))), .unset, .unset, .unset, .unset, .unset, .unset, .unset] [(.int (1 : Int32)), (.int ((p3 >>> ((3 : Int32) &&& 31)) &&& (3 : Int32)))])) target := by
        by_cases hf12 : ((p3 >>> ((3 : Int32) &&& 31)) &&& (3 : Int32)) = (1 : Int32)
        · obtain ⟨T13, X13, e13, st13⟩ := getS2 X7 hx hZ hown (host := "") (Or.inl (hw _ (List.mem_of_getElem? (i := 153) rfl))) Via.refl e7 (S1.ext O6.2) (g := (mkF m 109 #[.val (.int p0), .val (.int p1), .val (.int p2), .val (.int p3), .val (.int (2 : Int32)), .val (.ref a), .val (.ref kd), .val (.int ((p3 >>> ((3 : Int32) &&& 31)) &&& (3 : Int32))), .unset, .unset, .unset, .unset, .unset, .unset, .unset] [])) rfl (hb hby at_109)
          refine ⟨T13, f1, Or.inl ⟨hf12, rfl⟩, ⟨X13, e13⟩, fun target kgo_ => ?_⟩
          show Steps p.tables e below (T7.setTop (mkF m 106 #[.val (.int p0), .val (.int p1), .val (.int p2), .val (.int p3), .val (.int (2 : Int32)), .val (.ref a), .val (.ref kd), .val (.int ((p3 >>> ((3 : Int32) &&& 31)) &&& (3 : Int32))), .unset, .unset, .unset, .unset, .unset, .unset, .unset] [(.int (1 : Int32)), (.int ((p3 >>> ((3 : Int32) &&& 31)) &&& (3 : Int32)))])) _
          refine XS.icmpNo X7.here hx rfl (hb hby at_106) rfl (teq hf12).2 ?_
          show Steps p.tables e below (T7.setTop (mkF m 109 #[.val (.int p0), .val (.int p1), .val (.int p2), .val (.int p3), .val (.int (2 : Int32)), .val (.ref a), .val (.ref kd), .val (.int ((p3 >>> ((3 : Int32) &&& 31)) &&& (3 : Int32))), .unset, .unset, .unset, .unset, .unset, .unset, .unset] [])) _
          refine st13 _ ?_
          show Steps p.tables e below (T13.setTop (mkF m 112 #[.val (.int p0), .val (.int p1), .val (.int p2), .val (.int p3), .val (.int (2 : Int32)), .val (.ref a), .val (.ref kd), .val (.int ((p3 >>> ((3 : Int32) &&& 31)) &&& (3 : Int32))), .unset, .unset, .unset, .unset, .unset, .unset, .unset] [(.ref f1)])) _
          refine XS.goto X13.here hx rfl (pc0 := 112) (pc' := 130) rfl (hb hby at_112) (by decide) (by decide) ?_
          show Steps p.tables e below (T13.setTop (mkF m 130 #[.val (.int p0), .val (.int p1), .val (.int p2), .val (.int p3), .val (.int (2 : Int32)), .val (.ref a), .val (.ref kd), .val (.int ((p3 >>> ((3 : Int32) &&& 31)) &&& (3 : Int32))), .unset, .unset, .unset, .unset, .unset, .unset, .unset] [(.ref f1)])) _
          exact kgo_
        · obtain ⟨T14, w14_0, hv14, ⟨X14, e14⟩, st14⟩ : ∃ (T' : State) (w14_0 : Addr), ((((p3 >>> ((3 : Int32) &&& 31)) &&& (3 : Int32)) = (2 : Int32) ∧ w14_0 = f2) ∨ (¬ (((p3 >>> ((3 : Int32) &&& 31)) &&& (3 : Int32)) = (2 : Int32)) ∧ w14_0 = f3)) ∧ own_Go X7 T6.heap T' ∧ ∀ target, Steps p.tables e below (T'.setTop (mkF m 130 #[.val (.int p0), .val (.int p1), .val (.int p2), .val (.int p3), .val (.int (2 : Int32)), .val (.ref a), .val (.ref kd), .val (.int ((p3 >>> ((3 : Int32) &&& 31)) &&& (3 : Int32))), .unset, .unset, .unset, .unset, .unset, .unset, .unset] [(.ref w14_0)])) target → Steps p.tables e below (T7.setTop (mkF m 118 #[.val (.int p0), .val (.int p1), .val (.int p2), .val (.int p3), .val (.int (2 : Int32)), .val (.ref a), .val (.ref kd), .val (.int ((p3 >>> ((3 : Int32) &&& 31)) &&& (3 : Int32))), .unset, .unset, .unset, .unset, .unset, .unset, .unset] [(.int (2 : Int32)), (.int ((p3 >>> ((3 : Int32) &&& 31)) &&& (3 : Int32)))])) target := by
            by_cases hf14 : ((p3 >>> ((3 : Int32) &&& 31)) &&& (3 : Int32)) = (2 : Int32)
            · obtain ⟨T15, X15, e15, st15⟩ := getS2 X7 hx hZ hown (host := "") (Or.inl (hw _ (List.mem_of_getElem? (i := 168) rfl))) Via.refl e7 (S2.ext O6.2) (g := (mkF m 121 #[.val (.int p0), .val (.int p1), .val (.int p2), .val (.int p3), .val (.int (2 : Int32)), .val (.ref a), .val (.ref kd), .val (.int ((p3 >>> ((3 : Int32) &&& 31)) &&& (3 : Int32))), .unset, .unset, .unset, .unset, .unset, .unset, .unset] [])) rfl (hb hby at_121)
              refine ⟨T15, f2, Or.inl ⟨hf14, rfl⟩, ⟨X15, e15⟩, fun target kgo_ => ?_⟩
              show Steps p.tables e below (T7.setTop (mkF m 118 #[.val (.int p0), .val (.int p1), .val (.int p2), .val (.int p3), .val (.int (2 : Int32)), .val (.ref a), .val (.ref kd), .val (.int ((p3 >>> ((3 : Int32) &&& 31)) &&& (3 : Int32))), .unset, .unset, .unset, .unset, .unset, .unset, .unset] [(.int (2 : Int32)), (.int ((p3 >>> ((3 : Int32) &&& 31)) &&& (3 : Int32)))])) _
              refine XS.icmpNo X7.here hx rfl (hb hby at_118) rfl (teq hf14).2 ?_
              show Steps p.tables e below (T7.setTop (mkF m 121 #[.val (.int p0), .val (.int p1), .val (.int p2), .val (.int p3), .val (.int (2 : Int32)), .val (.ref a), .val (.ref kd), .val (.int ((p3 >>> ((3 : Int32) &&& 31)) &&& (3 : Int32))), .unset, .unset, .unset, .unset, .unset, .unset, .unset] [])) _
              refine st15 _ ?_
              show Steps p.tables e below (T15.setTop (mkF m 124 #[.val (.int p0), .val (.int p1), .val (.int p2), .val (.int p3), .val (.int (2 : Int32)), .val (.ref a), .val (.ref kd), .val (.int ((p3 >>> ((3 : Int32) &&& 31)) &&& (3 : Int32))), .unset, .unset, .unset, .unset, .unset, .unset, .unset] [(.ref f2)])) _
              refine XS.goto X15.here hx rfl (pc0 := 124) (pc' := 130) rfl (hb hby at_124) (by decide) (by decide) ?_
              show Steps p.tables e below (T15.setTop (mkF m 130 #[.val (.int p0), .val (.int p1), .val (.int p2), .val (.int p3), .val (.int (2 : Int32)), .val (.ref a), .val (.ref kd), .val (.int ((p3 >>> ((3 : Int32) &&& 31)) &&& (3 : Int32))), .unset, .unset, .unset, .unset, .unset, .unset, .unset] [(.ref f2)])) _
              exact kgo_
            · obtain ⟨T16, X16, e16, st16⟩ := getS2 X7 hx hZ hown (host := "") (Or.inl (hw _ (List.mem_of_getElem? (i := 170) rfl))) Via.refl e7 (S3.ext O6.2) (g := (mkF m 127 #[.val (.int p0), .val (.int p1), .val (.int p2), .val (.int p3), .val (.int (2 : Int32)), .val (.ref a), .val (.ref kd), .val (.int ((p3 >>> ((3 : Int32) &&& 31)) &&& (3 : Int32))), .unset, .unset, .unset, .unset, .unset, .unset, .unset] [])) rfl (hb hby at_127)
              refine ⟨T16, f3, Or.inr ⟨hf14, rfl⟩, ⟨X16, e16⟩, fun target kgo_ => ?_⟩
              show Steps p.tables e below (T7.setTop (mkF m 118 #[.val (.int p0), .val (.int p1), .val (.int p2), .val (.int p3), .val (.int (2 : Int32)), .val (.ref a), .val (.ref kd), .val (.int ((p3 >>> ((3 : Int32) &&& 31)) &&& (3 : Int32))), .unset, .unset, .unset, .unset, .unset, .unset, .unset] [(.int (2 : Int32)), (.int ((p3 >>> ((3 : Int32) &&& 31)) &&& (3 : Int32)))])) _
              refine XS.icmpYes X7.here hx rfl (pc0 := 118) (pc' := 127) rfl (hb hby at_118) rfl (feq hf14).2 (by decide) (by decide) ?_
              show Steps p.tables e below (T7.setTop (mkF m 127 #[.val (.int p0), .val (.int p1), .val (.int p2), .val (.int p3), .val (.int (2 : Int32)), .val (.ref a), .val (.ref kd), .val (.int ((p3 >>> ((3 : Int32) &&& 31)) &&& (3 : Int32))), .unset, .unset, .unset, .unset, .unset, .unset, .unset] [])) _
              refine st16 _ ?_
              show Steps p.tables e below (T16.setTop (mkF m 130 #[.val (.int p0), .val (.int p1), .val (.int p2), .val (.int p3), .val (.int (2 : Int32)), .val (.ref a), .val (.ref kd), .val (.int ((p3 >>> ((3 : Int32) &&& 31)) &&& (3 : Int32))), .unset, .unset, .unset, .unset, .unset, .unset, .unset] [(.ref f3)])) _
              exact kgo_
          refine ⟨T14, w14_0, Or.inr ⟨hf12, hv14⟩, ⟨X14, e14⟩, fun target kgo_ => ?_⟩
          show Steps p.tables e below (T7.setTop (mkF m 106 #[.val (.int p0), .val (.int p1), .val (.int p2), .val (.int p3), .val (.int (2 : Int32)), .val (.ref a), .val (.ref kd), .val (.int ((p3 >>> ((3 : Int32) &&& 31)) &&& (3 : Int32))), .unset, .unset, .unset, .unset, .unset, .unset, .unset] [(.int (1 : Int32)), (.int ((p3 >>> ((3 : Int32) &&& 31)) &&& (3 : Int32)))])) _
          refine XS.icmpYes X7.here hx rfl (pc0 := 106) (pc' := 115) rfl (hb hby at_106) rfl (feq hf12).2 (by decide) (by decide) ?_
          show Steps p.tables e below (T7.setTop (mkF m 115 #[.val (.int p0), .val (.int p1), .val (.int p2), .val (.int p3), .val (.int (2 : Int32)), .val (.ref a), .val (.ref kd), .val (.int ((p3 >>> ((3 : Int32) &&& 31)) &&& (3 : Int32))), .unset, .unset, .unset, .unset, .unset, .unset, .unset] [])) _
          refine XS.iload X7.here hx rfl (hb hby at_115) rfl ?_
          show Steps p.tables e below (T7.setTop (mkF m 117 #[.val (.int p0), .val (.int p1), .val (.int p2), .val (.int p3), .val (.int (2 : Int32)), .val (.ref a), .val (.ref kd), .val (.int ((p3 >>> ((3 : Int32) &&& 31)) &&& (3 : Int32))), .unset, .unset, .unset, .unset, .unset, .unset, .unset] [(.int ((p3 >>> ((3 : Int32) &&& 31)) &&& (3 : Int32)))])) _
          refine XS.iconst X7.here hx rfl (hb hby at_117) ?_
          refine st14 _ ?_
          show Steps p.tables e below (T14.setTop (mkF m 130 #[.val (.int p0), .val (.int p1), .val (.int p2), .val (.int p3), .val (.int (2 : Int32)), .val (.ref a), .val (.ref kd), .val (.int ((p3 >>> ((3 : Int32) &&& 31)) &&& (3 : Int32))), .unset, .unset, .unset, .unset, .unset, .unset, .unset] [(.ref w14_0)])) _
          exact kgo_
      refine ⟨T12, w12_0, Or.inr ⟨hf10, hv12⟩, ⟨X12, e12⟩, fun target kgo_ => ?_⟩
      show Steps p.tables e below (T7.setTop (mkF m 94 #[.val (.int p0), .val (.int p1), .val (.int p2), .val (.int p3), .val (.int (2 : Int32)), .val (.ref a), .val (.ref kd), .val (.int ((p3 >>> ((3 : Int32) &&& 31)) &&& (3 : Int32))), .unset, .unset, .unset, .unset, .unset, .unset, .unset] [(.int ((p3 >>> ((3 : Int32) &&& 31)) &&& (3 : Int32)))])) _
      refine XS.ifYes X7.here hx rfl (pc0 := 94) (pc' := 103) rfl (hb hby at_94) rfl ((if0 _ _).trans (feq hf10).2) (by decide) (by decide) ?_
      show Steps p.tables e below (T7.setTop (mkF m 103 #[.val (.int p0), .val (.int p1), .val (.int p2), .val (.int p3), .val (.int (2 : Int32)), .val (.ref a), .val (.ref kd), .val (.int ((p3 >>> ((3 : Int32) &&& 31)) &&& (3 : Int32))), .unset, .unset, .unset, .unset, .unset, .unset, .unset] [])) _
      refine XS.iload X7.here hx rfl (hb hby at_103) rfl ?_
      show Steps p.tables e below (T7.setTop (mkF m 105 #[.val (.int p0), .val (.int p1), .val (.int p2), .val (.int p3), .val (.int (2 : Int32)), .val (.ref a), .val (.ref kd), .val (.int ((p3 >>> ((3 : Int32) &&& 31)) &&& (3 : Int32))), .unset, .unset, .unset, .unset, .unset, .unset, .unset] [(.int ((p3 >>> ((3 : Int32) &&& 31)) &&& (3 : Int32)))])) _
      refine XS.iconst X7.here hx rfl (hb hby at_105) ?_
      refine st12 _ ?_
      show Steps p.tables e below (T12.setTop (mkF m 130 #[.val (.int p0), .val (.int p1), .val (.int p2), .val (.int p3), .val (.int (2 : Int32)), .val (.ref a), .val (.ref kd), .val (.int ((p3 >>> ((3 : Int32) &&& 31)) &&& (3 : Int32))), .unset, .unset, .unset, .unset, .unset, .unset, .unset] [(.ref w12_0)])) _
      exact kgo_
  obtain ⟨T17, car, hv17, ⟨X17, e17⟩, st17⟩ : ∃ (T' : State) (car : Int32), ((((p3 >>> ((5 : Int32) &&& 31)) &&& (1 : Int32)) = (0 : Int32) ∧ car = (0 : Int32)) ∨ (¬ (((p3 >>> ((5 : Int32) &&& 31)) &&& (1 : Int32)) = (0 : Int32)) ∧ car = (1 : Int32))) ∧ own_Go X10 T6.heap T' ∧ ∀ target, Steps p.tables e below (T'.setTop (mkF m 145 #[.val (.int p0), .val (.int p1), .val (.int p2), .val (.int p3), .val (.int (2 : Int32)), .val (.ref a), .val (.ref kd), .val (.int ((p3 >>> ((3 : Int32) &&& 31)) &&& (3 : Int32))), .val (.ref fo), .unset, .unset, .unset, .unset, .unset, .unset] [(.int car)])) target → Steps p.tables e below (T10.setTop (mkF m 137 #[.val (.int p0), .val (.int p1), .val (.int p2), .val (.int p3), .val (.int (2 : Int32)), .val (.ref a), .val (.ref kd), .val (.int ((p3 >>> ((3 : Int32) &&& 31)) &&& (3 : Int32))), .val (.ref fo), .unset, .unset, .unset, .unset, .unset, .unset] [(.int ((p3 >>> ((5 : Int32) &&& 31)) &&& (1 : Int32)))])) target := by
    by_cases hf17 : ((p3 >>> ((5 : Int32) &&& 31)) &&& (1 : Int32)) = (0 : Int32)
    · refine ⟨T10, (0 : Int32), Or.inl ⟨hf17, rfl⟩, ⟨X10, e10⟩, fun target kgo_ => ?_⟩
      show Steps p.tables e below (T10.setTop (mkF m 137 #[.val (.int p0), .val (.int p1), .val (.int p2), .val (.int p3), .val (.int (2 : Int32)), .val (.ref a), .val (.ref kd), .val (.int ((p3 >>> ((3 : Int32) &&& 31)) &&& (3 : Int32))), .val (.ref fo), .unset, .unset, .unset, .unset, .unset, .unset] [(.int ((p3 >>> ((5 : Int32) &&& 31)) &&& (1 : Int32)))])) _
      refine XS.ifYes X10.here hx rfl (pc0 := 137) (pc' := 144) rfl (hb hby at_137) rfl ((if0 _ _).trans (teq hf17).1) (by decide) (by decide) ?_
      show Steps p.tables e below (T10.setTop (mkF m 144 #[.val (.int p0), .val (.int p1), .val (.int p2), .val (.int p3), .val (.int (2 : Int32)), .val (.ref a), .val (.ref kd), .val (.int ((p3 >>> ((3 : Int32) &&& 31)) &&& (3 : Int32))), .val (.ref fo), .unset, .unset, .unset, .unset, .unset, .unset] [])) _
      refine XS.iconst X10.here hx rfl (hb hby at_144) ?_
      show Steps p.tables e below (T10.setTop (mkF m 145 #[.val (.int p0), .val (.int p1), .val (.int p2), .val (.int p3), .val (.int (2 : Int32)), .val (.ref a), .val (.ref kd), .val (.int ((p3 >>> ((3 : Int32) &&& 31)) &&& (3 : Int32))), .val (.ref fo), .unset, .unset, .unset, .unset, .unset, .unset] [(.int (0 : Int32))])) _
      exact kgo_
    · refine ⟨T10, (1 : Int32), Or.inr ⟨hf17, rfl⟩, ⟨X10, e10⟩, fun target kgo_ => ?_⟩
      show Steps p.tables e below (T10.setTop (mkF m 137 #[.val (.int p0), .val (.int p1), .val (.int p2), .val (.int p3), .val (.int (2 : Int32)), .val (.ref a), .val (.ref kd), .val (.int ((p3 >>> ((3 : Int32) &&& 31)) &&& (3 : Int32))), .val (.ref fo), .unset, .unset, .unset, .unset, .unset, .unset] [(.int ((p3 >>> ((5 : Int32) &&& 31)) &&& (1 : Int32)))])) _
      refine XS.ifNo X10.here hx rfl (hb hby at_137) rfl ((if0 _ _).trans (feq hf17).1) ?_
      show Steps p.tables e below (T10.setTop (mkF m 140 #[.val (.int p0), .val (.int p1), .val (.int p2), .val (.int p3), .val (.int (2 : Int32)), .val (.ref a), .val (.ref kd), .val (.int ((p3 >>> ((3 : Int32) &&& 31)) &&& (3 : Int32))), .val (.ref fo), .unset, .unset, .unset, .unset, .unset, .unset] [])) _
      refine XS.iconst X10.here hx rfl (hb hby at_140) ?_
      show Steps p.tables e below (T10.setTop (mkF m 141 #[.val (.int p0), .val (.int p1), .val (.int p2), .val (.int p3), .val (.int (2 : Int32)), .val (.ref a), .val (.ref kd), .val (.int ((p3 >>> ((3 : Int32) &&& 31)) &&& (3 : Int32))), .val (.ref fo), .unset, .unset, .unset, .unset, .unset, .unset] [(.int (1 : Int32))])) _
      refine XS.goto X10.here hx rfl (pc0 := 141) (pc' := 145) rfl (hb hby at_141) (by decide) (by decide) ?_
      show Steps p.tables e below (T10.setTop (mkF m 145 #[.val (.int p0), .val (.int p1), .val (.int p2), .val (.int p3), .val (.int (2 : Int32)), .val (.ref a), .val (.ref kd), .val (.int ((p3 >>> ((3 : Int32) &&& 31)) &&& (3 : Int32))), .val (.ref fo), .unset, .unset, .unset, .unset, .unset, .unset] [(.int (1 : Int32))])) _
      exact kgo_
  obtain ⟨T18, h18, X18, e18, E18, A18, D18, -, st18⟩ := newO X17 hx hZ hown (hw _ (List.mem_of_getElem? (i := 74) rfl)) (hw _ (List.mem_of_getElem? (i := 75) rfl)) (hw _ (List.mem_of_getElem? (i := 76) rfl)) e17 (g := (mkF m 147 #[.val (.int p0), .val (.int p1), .val (.int p2), .val (.int p3), .val (.int (2 : Int32)), .val (.ref a), .val (.ref kd), .val (.int ((p3 >>> ((3 : Int32) &&& 31)) &&& (3 : Int32))), .val (.ref fo), .val (.int car), .unset, .unset, .unset, .unset, .unset] [])) rfl (hb hby at_147) (by decide) (by decide)
  obtain ⟨q, g18⟩ : ∃ z, z = T6.heap.size := ⟨_, rfl⟩
  have g_q : n0 ≤ q := Nat.le_trans (Nat.le_trans (Nat.le_of_eq O6.1.symm) O6.2.1) (Nat.le_of_eq g18.symm)
  have ne_x1_q : x1 ≠ q := Nat.ne_of_lt (Nat.lt_of_lt_of_le f6_E_x1.lt (Nat.le_of_eq g18.symm))
  have ne_x2_q : x2 ≠ q := Nat.ne_of_lt (Nat.lt_of_lt_of_le f6_E_x2.lt (Nat.le_of_eq g18.symm))
  have ne_a_q : a ≠ q := Nat.ne_of_lt (Nat.lt_of_lt_of_le p6_L_a.1.lt (Nat.le_of_eq g18.symm))
  have ne_ea_q : ea ≠ q := Nat.ne_of_lt (Nat.lt_of_lt_of_le (own_AL_lt p6_L_a) (Nat.le_of_eq g18.symm))
  rw [← g18] at A18 D18 st18
  have f18_E_x1 := f6_E_x1.ext E18
  have f18_F_x1_value := f6_F_x1_value.ext E18
  have f18_E_x2 := f6_E_x2.ext E18
  have f18_F_x2_value := f6_F_x2_value.ext E18
  have f18_L_a := p6_L_a.ext E18
  have O18 := O6.ext E18
  have F18_line : Fld Z h18 q "com/example/witnesseth/witnesseth/HeadingLine" "line" "I" (.int (0 : Int32)) := D18 (Or.inr (hw _ (List.mem_of_getElem? (i := 96) rfl))) (ty := .int) (by decide)
  have F18_kind : Fld Z h18 q "com/example/witnesseth/witnesseth/HeadingLine" "kind" "Lcom/example/witnesseth/witnesseth/Heading$Kind;" .null := D18 (Or.inr (hw _ (List.mem_of_getElem? (i := 98) rfl))) (ty := (.object "com/example/witnesseth/witnesseth/Heading$Kind")) (by decide)
  have F18_number : Fld Z h18 q "com/example/witnesseth/witnesseth/HeadingLine" "number" "Ljava/lang/String;" .null := D18 (Or.inr (hw _ (List.mem_of_getElem? (i := 100) rfl))) (ty := (.object "java/lang/String")) (by decide)
  have F18_value : Fld Z h18 q "com/example/witnesseth/witnesseth/HeadingLine" "value" "Ljava/util/List;" .null := D18 (Or.inr (hw _ (List.mem_of_getElem? (i := 102) rfl))) (ty := (.object "java/util/List")) (by decide)
  have F18_rest : Fld Z h18 q "com/example/witnesseth/witnesseth/HeadingLine" "rest" "Ljava/lang/String;" .null := D18 (Or.inr (hw _ (List.mem_of_getElem? (i := 104) rfl))) (ty := (.object "java/lang/String")) (by decide)
  have F18_carriesOn : Fld Z h18 q "com/example/witnesseth/witnesseth/HeadingLine" "carriesOn" "Z" (.int (0 : Int32)) := D18 (Or.inr (hw _ (List.mem_of_getElem? (i := 106) rfl))) (ty := .boolean) (by decide)
  have F18_form : Fld Z h18 q "com/example/witnesseth/witnesseth/HeadingLine" "form" "Lcom/example/witnesseth/witnesseth/HeadingLine$Form;" .null := D18 (Or.inr (hw _ (List.mem_of_getElem? (i := 108) rfl))) (ty := (.object "com/example/witnesseth/witnesseth/HeadingLine$Form")) (by decide)
  have hS := own_since0 s
  have hk : 0 ≤ h18.size := Nat.zero_le _
  obtain ⟨lit19, T19, h19, kk19, X19, e19, E19, hS, hk, hZ, hown, st19⟩ := ldcS (s := s) X18 hx hZ hown (hw _ (List.mem_of_getElem? (i := 77) rfl)) wS e18 hS hk (g := (mkF m 154 #[.val (.int p0), .val (.int p1), .val (.int p2), .val (.int p3), .val (.int (2 : Int32)), .val (.ref a), .val (.ref kd), .val (.int ((p3 >>> ((3 : Int32) &&& 31)) &&& (3 : Int32))), .val (.ref fo), .val (.int car), .unset, .unset, .unset, .unset, .unset] [(.ref kd), (.int p3), (.ref q), (.ref q)])) rfl (hb hby at_154) (n := 4) (by decide) (by decide) (by decide) (by decide)
  have f19_E_x1 := f18_E_x1.ext E19
  have f19_F_x1_value := f18_F_x1_value.ext E19
  have f19_E_x2 := f18_E_x2.ext E19
  have f19_F_x2_value := f18_F_x2_value.ext E19
  have f19_L_a := f18_L_a.ext E19
  have f19_E_q := A18.ext E19
  have f19_F_q_line := F18_line.ext E19
  have f19_F_q_kind := F18_kind.ext E19
  have f19_F_q_number := F18_number.ext E19
  have f19_F_q_value := F18_value.ext E19
  have f19_F_q_rest := F18_rest.ext E19
  have f19_F_q_carriesOn := F18_carriesOn.ext E19
  have f19_F_q_form := F18_form.ext E19
  have O19 := O18.ext E19
  obtain ⟨lit20, T20, h20, kk20, X20, e20, E20, hS, hk, hZ, hown, st20⟩ := ldcS (s := s) X19 hx hZ hown (hw _ (List.mem_of_getElem? (i := 85) rfl)) wS e19 hS hk (g := (mkF m 158 #[.val (.int p0), .val (.int p1), .val (.int p2), .val (.int p3), .val (.int (2 : Int32)), .val (.ref a), .val (.ref kd), .val (.int ((p3 >>> ((3 : Int32) &&& 31)) &&& (3 : Int32))), .val (.ref fo), .val (.int car), .unset, .unset, .unset, .unset, .unset] [(.ref a), (.ref lit19), (.ref kd), (.int p3), (.ref q), (.ref q)])) rfl (hb hby at_158) (n := 0) (by decide) (by decide) (by decide) (by decide)
  have f20_E_x1 := f19_E_x1.ext E20
  have f20_F_x1_value := f19_F_x1_value.ext E20
  have f20_E_x2 := f19_E_x2.ext E20
  have f20_F_x2_value := f19_F_x2_value.ext E20
  have f20_L_a := f19_L_a.ext E20
  have f20_E_q := f19_E_q.ext E20
  have f20_F_q_line := f19_F_q_line.ext E20
  have f20_F_q_kind := f19_F_q_kind.ext E20
  have f20_F_q_number := f19_F_q_number.ext E20
  have f20_F_q_value := f19_F_q_value.ext E20
  have f20_F_q_rest := f19_F_q_rest.ext E20
  have f20_F_q_carriesOn := f19_F_q_carriesOn.ext E20
  have f20_F_q_form := f19_F_q_form.ext E20
  have O20 := O19.ext E20
  obtain ⟨_, _, ⟨T21, L21, k21, n21⟩, -, X21, ⟨Lc21, hQ21, l21, y21, z21⟩, st21⟩ := X20.specialBack hx (y := (⟨"com/example/witnesseth/witnesseth/HeadingLine", "<init>", "(ILcom/example/witnesseth/witnesseth/Heading$Kind;Ljava/lang/String;Ljava/util/List;Ljava/lang/String;ZLcom/example/witnesseth/witnesseth/HeadingLine$Form;)V"⟩ : MethodName)) rfl hown (mvT hZ (hw _ (List.mem_of_getElem? (i := 86) rfl))) (mvT hZ (hw _ (List.mem_of_getElem? (i := 87) rfl))) (mvT hZ (hw _ (List.mem_of_getElem? (i := 88) rfl))) (by decide) (backOf (W := 1) (own_hi l Z a0 hw [] q p3 kd lit19 a lit20 car fo h20 n0 O20  f20_E_q f20_F_q_line f20_F_q_kind f20_F_q_number f20_F_q_value f20_F_q_rest f20_F_q_carriesOn f20_F_q_form g_q) hZ (hw _ (List.mem_of_getElem? (i := 88) rfl)) (hw _ (List.mem_of_getElem? (i := 76) rfl)) (by decide) (by decide)) (g := (mkF m 164 #[.val (.int p0), .val (.int p1), .val (.int p2), .val (.int p3), .val (.int (2 : Int32)), .val (.ref a), .val (.ref kd), .val (.int ((p3 >>> ((3 : Int32) &&& 31)) &&& (3 : Int32))), .val (.ref fo), .val (.int car), .unset, .unset, .unset, .unset, .unset] [(.ref fo), (.int car), (.ref lit20), (.ref a), (.ref lit19), (.ref kd), (.int p3), (.ref q), (.ref q)])) rfl (by rw [hml]; rfl) (Steps.refl _) (a := q) (argsL := [(.int p3), (.ref kd), (.ref lit19), (.ref a), (.ref lit20), (.int car), (.ref fo)]) (rest := [(.ref q)]) (lenOf own_pd11 rfl) rfl (by show 2 * 0 + _ ≤ _; exact Nat.le_of_eq rfl) (hb hby at_164) (fun _ _ => ⟨rfl, e20, (by decide : 9 + 0 ≤ _), (by decide : 34 + 0 ≤ _)⟩)
  dsimp only [Pt.U, Pt.locs, Pt.cells, Pt.slots] at X21 l21 y21 z21 st21 hQ21
  subst l21 y21 z21
  obtain ⟨rfl, N21q, O21, K21, p21_E_q, p21_F_q_kind, p21_F_q_value⟩ := hQ21
  have N21 := Fr.app N6 N21q
  have f21_E_x1 := f20_E_x1.keep K21
  have f21_F_x1_value := f20_F_x1_value.keep K21 (ninS ne_x1_q nin0)
  have f21_E_x2 := f20_E_x2.keep K21
  have f21_F_x2_value := f20_F_x2_value.keep K21 (ninS ne_x2_q nin0)
  have f21_L_a := own_AL_keep f20_L_a K21 (ninS ne_a_q nin0) (ninS ne_ea_q nin0)
  have hk := Nat.le_trans hk K21.1
  obtain ⟨T22, art, hv22, ⟨X22, e22⟩, st22⟩ : ∃ (T' : State) (art : Int32), ((((p3 >>> ((6 : Int32) &&& 31)) &&& (1 : Int32)) = (0 : Int32) ∧ art = p1) ∨ (¬ (((p3 >>> ((6 : Int32) &&& 31)) &&& (1 : Int32)) = (0 : Int32)) ∧ art = p0)) ∧ own_Go X21 T21.heap T' ∧ ∀ target, Steps p.tables e below (T'.setTop (mkF m 183 #[.val (.int p0), .val (.int p1), .val (.int p2), .val (.int p3), .val (.int (2 : Int32)), .val (.ref a), .val (.ref kd), .val (.int ((p3 >>> ((3 : Int32) &&& 31)) &&& (3 : Int32))), .val (.ref fo), .val (.int car), .val (.ref q), .unset, .unset, .unset, .unset] [(.int art)])) target → Steps p.tables e below (T21.setTop (mkF m 175 #[.val (.int p0), .val (.int p1), .val (.int p2), .val (.int p3), .val (.int (2 : Int32)), .val (.ref a), .val (.ref kd), .val (.int ((p3 >>> ((3 : Int32) &&& 31)) &&& (3 : Int32))), .val (.ref fo), .val (.int car), .val (.ref q), .unset, .unset, .unset, .unset] [(.int ((p3 >>> ((6 : Int32) &&& 31)) &&& (1 : Int32)))])) target := by
    by_cases hf22 : ((p3 >>> ((6 : Int32) &&& 31)) &&& (1 : Int32)) = (0 : Int32)
    · refine ⟨T21, p1, Or.inl ⟨hf22, rfl⟩, ⟨X21, rfl⟩, fun target kgo_ => ?_⟩
      show Steps p.tables e below (T21.setTop (mkF m 175 #[.val (.int p0), .val (.int p1), .val (.int p2), .val (.int p3), .val (.int (2 : Int32)), .val (.ref a), .val (.ref kd), .val (.int ((p3 >>> ((3 : Int32) &&& 31)) &&& (3 : Int32))), .val (.ref fo), .val (.int car), .val (.ref q), .unset, .unset, .unset, .unset] [(.int ((p3 >>> ((6 : Int32) &&& 31)) &&& (1 : Int32)))])) _
      refine XS.ifYes X21.here hx rfl (pc0 := 175) (pc' := 182) rfl (hb hby at_175) rfl ((if0 _ _).trans (teq hf22).1) (by decide) (by decide) ?_
      show Steps p.tables e below (T21.setTop (mkF m 182 #[.val (.int p0), .val (.int p1), .val (.int p2), .val (.int p3), .val (.int (2 : Int32)), .val (.ref a), .val (.ref kd), .val (.int ((p3 >>> ((3 : Int32) &&& 31)) &&& (3 : Int32))), .val (.ref fo), .val (.int car), .val (.ref q), .unset, .unset, .unset, .unset] [])) _
      refine XS.iloadN X21.here hx rfl (hb hby at_182) rfl ?_
      show Steps p.tables e below (T21.setTop (mkF m 183 #[.val (.int p0), .val (.int p1), .val (.int p2), .val (.int p3), .val (.int (2 : Int32)), .val (.ref a), .val (.ref kd), .val (.int ((p3 >>> ((3 : Int32) &&& 31)) &&& (3 : Int32))), .val (.ref fo), .val (.int car), .val (.ref q), .unset, .unset, .unset, .unset] [(.int p1)])) _
      exact kgo_
    · refine ⟨T21, p0, Or.inr ⟨hf22, rfl⟩, ⟨X21, rfl⟩, fun target kgo_ => ?_⟩
      show Steps p.tables e below (T21.setTop (mkF m 175 #[.val (.int p0), .val (.int p1), .val (.int p2), .val (.int p3), .val (.int (2 : Int32)), .val (.ref a), .val (.ref kd), .val (.int ((p3 >>> ((3 : Int32) &&& 31)) &&& (3 : Int32))), .val (.ref fo), .val (.int car), .val (.ref q), .unset, .unset, .unset, .unset] [(.int ((p3 >>> ((6 : Int32) &&& 31)) &&& (1 : Int32)))])) _
      refine XS.ifNo X21.here hx rfl (hb hby at_175) rfl ((if0 _ _).trans (feq hf22).1) ?_
      show Steps p.tables e below (T21.setTop (mkF m 178 #[.val (.int p0), .val (.int p1), .val (.int p2), .val (.int p3), .val (.int (2 : Int32)), .val (.ref a), .val (.ref kd), .val (.int ((p3 >>> ((3 : Int32) &&& 31)) &&& (3 : Int32))), .val (.ref fo), .val (.int car), .val (.ref q), .unset, .unset, .unset, .unset] [])) _
      refine XS.iloadN X21.here hx rfl (hb hby at_178) rfl ?_
      show Steps p.tables e below (T21.setTop (mkF m 179 #[.val (.int p0), .val (.int p1), .val (.int p2), .val (.int p3), .val (.int (2 : Int32)), .val (.ref a), .val (.ref kd), .val (.int ((p3 >>> ((3 : Int32) &&& 31)) &&& (3 : Int32))), .val (.ref fo), .val (.int car), .val (.ref q), .unset, .unset, .unset, .unset] [(.int p0)])) _
      refine XS.goto X21.here hx rfl (pc0 := 179) (pc' := 183) rfl (hb hby at_179) (by decide) (by decide) ?_
      show Steps p.tables e below (T21.setTop (mkF m 183 #[.val (.int p0), .val (.int p1), .val (.int p2), .val (.int p3), .val (.int (2 : Int32)), .val (.ref a), .val (.ref kd), .val (.int ((p3 >>> ((3 : Int32) &&& 31)) &&& (3 : Int32))), .val (.ref fo), .val (.int car), .val (.ref q), .unset, .unset, .unset, .unset] [(.int p0)])) _
      exact kgo_
  obtain ⟨T23, h23, X23, e23, E23, A23, D23, -, st23⟩ := newO X22 hx hZ hown (hw _ (List.mem_of_getElem? (i := 0) rfl)) (hw _ (List.mem_of_getElem? (i := 1) rfl)) (hw _ (List.mem_of_getElem? (i := 2) rfl)) e22 (g := (mkF m 185 #[.val (.int p0), .val (.int p1), .val (.int p2), .val (.int p3), .val (.int (2 : Int32)), .val (.ref a), .val (.ref kd), .val (.int ((p3 >>> ((3 : Int32) &&& 31)) &&& (3 : Int32))), .val (.ref fo), .val (.int car), .val (.ref q), .val (.int art), .unset, .unset, .unset] [])) rfl (hb hby at_185) (by decide) (by decide)
  obtain ⟨a2, g23⟩ : ∃ z, z = T21.heap.size := ⟨_, rfl⟩
  have g_a2 : n0 ≤ a2 := Nat.le_trans (Nat.le_trans (Nat.le_of_eq O21.1.symm) O21.2.1) (Nat.le_of_eq g23.symm)
  have ne_x1_a2 : x1 ≠ a2 := Nat.ne_of_lt (Nat.lt_of_lt_of_le f21_E_x1.lt (Nat.le_of_eq g23.symm))
  have ne_x2_a2 : x2 ≠ a2 := Nat.ne_of_lt (Nat.lt_of_lt_of_le f21_E_x2.lt (Nat.le_of_eq g23.symm))
  have ne_a_a2 : a ≠ a2 := Nat.ne_of_lt (Nat.lt_of_lt_of_le f21_L_a.1.lt (Nat.le_of_eq g23.symm))
  have ne_ea_a2 : ea ≠ a2 := Nat.ne_of_lt (Nat.lt_of_lt_of_le (own_AL_lt f21_L_a) (Nat.le_of_eq g23.symm))
  have ne_q_a2 : q ≠ a2 := Nat.ne_of_lt (Nat.lt_of_lt_of_le p21_E_q.lt (Nat.le_of_eq g23.symm))
  rw [← g23] at A23 D23 st23
  have f23_E_x1 := f21_E_x1.ext E23
  have f23_F_x1_value := f21_F_x1_value.ext E23
  have f23_E_x2 := f21_E_x2.ext E23
  have f23_F_x2_value := f21_F_x2_value.ext E23
  have f23_L_a := f21_L_a.ext E23
  have f23_E_q := p21_E_q.ext E23
  have f23_F_q_kind := p21_F_q_kind.ext E23
  have f23_F_q_value := p21_F_q_value.ext E23
  have hk := Nat.le_trans hk E23.1
  have O23 := O21.ext E23
  have F23_modCount : Fld Z h23 a2 "java/util/AbstractList" "modCount" "I" (.int (0 : Int32)) := D23 (Or.inl (hw _ (List.mem_of_getElem? (i := 22) rfl))) (ty := .int) (by decide)
  have F23_elementData : Fld Z h23 a2 "java/util/ArrayList" "elementData" "[Ljava/lang/Object;" .null := D23 (Or.inl (hw _ (List.mem_of_getElem? (i := 25) rfl))) (ty := (.array (.object "java/lang/Object"))) (by decide)
  have F23_size : Fld Z h23 a2 "java/util/ArrayList" "size" "I" (.int (0 : Int32)) := D23 (Or.inl (hw _ (List.mem_of_getElem? (i := 45) rfl))) (ty := .int) (by decide)
  obtain ⟨_, _, ⟨T24, L24, k24, n24⟩, -, X24, ⟨Lc24, hQ24, l24, y24, z24⟩, st24⟩ := X23.specialBack hx (y := (⟨"java/util/ArrayList", "<init>", "()V"⟩ : MethodName)) rfl hown (mvT hZ (hw _ (List.mem_of_getElem? (i := 3) rfl))) (mvT hZ (hw _ (List.mem_of_getElem? (i := 4) rfl))) (mvT hZ (hw _ (List.mem_of_getElem? (i := 5) rfl))) (by decide) (backOf (W := 1) (own_ali l Z a0 hw [] a2 D cD ich icc kA kS f0 f1 f2 f3 h23 n0 O23 K A23 F23_modCount F23_elementData F23_size g_a2) hZ (hw _ (List.mem_of_getElem? (i := 5) rfl)) (hw _ (List.mem_of_getElem? (i := 2) rfl)) (by decide) (by decide)) (g := (mkF m 189 #[.val (.int p0), .val (.int p1), .val (.int p2), .val (.int p3), .val (.int (2 : Int32)), .val (.ref a), .val (.ref kd), .val (.int ((p3 >>> ((3 : Int32) &&& 31)) &&& (3 : Int32))), .val (.ref fo), .val (.int car), .val (.ref q), .val (.int art), .unset, .unset, .unset] [(.ref a2), (.ref a2)])) rfl (by rw [hml]; rfl) (Steps.refl _) (a := a2) (argsL := []) (rest := [(.ref a2)]) (lenOf own_pd0 rfl) rfl (by show 2 * 0 + _ ≤ _; exact Nat.le_of_eq rfl) (hb hby at_189) (fun _ _ => ⟨rfl, e23, (by decide : 10 + 0 ≤ _), (by decide : 37 + 0 ≤ _)⟩)
  dsimp only [Pt.U, Pt.locs, Pt.cells, Pt.slots] at X24 l24 y24 z24 st24 hQ24
  subst l24 y24 z24
  obtain ⟨rfl, N24q, O24, K24, p24_E_a, p24_F_a_modCount, p24_F_a_elementData, p24_F_a_size⟩ := hQ24
  have N24 := Fr.app N21 N24q
  have f24_E_x1 := f23_E_x1.keep K24
  have f24_F_x1_value := f23_F_x1_value.keep K24 (ninS ne_x1_a2 nin0)
  have f24_E_x2 := f23_E_x2.keep K24
  have f24_F_x2_value := f23_F_x2_value.keep K24 (ninS ne_x2_a2 nin0)
  have f24_L_a := own_AL_keep f23_L_a K24 (ninS ne_a_a2 nin0) (ninS ne_ea_a2 nin0)
  have f24_E_q := f23_E_q.keep K24
  have f24_F_q_kind := f23_F_q_kind.keep K24 (ninS ne_q_a2 nin0)
  have f24_F_q_value := f23_F_q_value.keep K24 (ninS ne_q_a2 nin0)
  have hk := Nat.le_trans hk K24.1
  obtain ⟨_, _, ⟨T25, L25, k25, n25⟩, -, X25, ⟨Lc25, hQ25, l25, y25, z25⟩, st25⟩ := Jvm.LawKit.callS X24 hx (y := (⟨"java/lang/Integer", "valueOf", "(I)Ljava/lang/Integer;"⟩ : MethodName)) hown (mvT hZ (hw _ (List.mem_of_getElem? (i := 26) rfl))) (mvT hZ (hw _ (List.mem_of_getElem? (i := 27) rfl))) (mvT hZ (hw _ (List.mem_of_getElem? (i := 28) rfl))) (mvT hZ (hw _ (List.mem_of_getElem? (i := 29) rfl))) (by decide) (backOf (W := 1) (own_val l Z a0 hw [] art D cD ich icc kA kS f0 f1 f2 f3 T24.heap n0 O24 K ) hZ (hw _ (List.mem_of_getElem? (i := 29) rfl)) (hw _ (List.mem_of_getElem? (i := 28) rfl)) (by decide) (by decide)) (g := (mkF m 198 #[.val (.int p0), .val (.int p1), .val (.int p2), .val (.int p3), .val (.int (2 : Int32)), .val (.ref a), .val (.ref kd), .val (.int ((p3 >>> ((3 : Int32) &&& 31)) &&& (3 : Int32))), .val (.ref fo), .val (.int car), .val (.ref q), .val (.int art), .val (.ref a2), .unset, .unset] [(.int art), (.ref a2)])) rfl (by rw [hml]; rfl) (argsL := [(.int art)]) (rest := [(.ref a2)]) (lenOf own_pd9 rfl) rfl (by show 2 * 0 + _ ≤ _; exact Nat.le_of_eq rfl) (hb hby at_198) (fun _ _ => ⟨rfl, rfl, (by decide : 10 + 1 ≤ _), (by decide : 37 + 1 ≤ _)⟩)
  dsimp only [Pt.U, Pt.locs, Pt.cells, Pt.slots] at X25 l25 y25 z25 st25 hQ25
  subst l25 y25 z25
  obtain ⟨x3, rfl, N25q, O25, K25, p25_E_r, p25_F_r_value⟩ := hQ25
  have N25 := Fr.app N24 N25q
  have f25_E_x1 := f24_E_x1.keep K25
  have f25_F_x1_value := f24_F_x1_value.keep K25 nin0
  have f25_E_x2 := f24_E_x2.keep K25
  have f25_F_x2_value := f24_F_x2_value.keep K25 nin0
  have f25_L_a := own_AL_keep f24_L_a K25 nin0 nin0
  have f25_E_q := f24_E_q.keep K25
  have f25_F_q_kind := f24_F_q_kind.keep K25 nin0
  have f25_F_q_value := f24_F_q_value.keep K25 nin0
  have f25_E_a2 := p24_E_a.keep K25
  have f25_F_a2_modCount := p24_F_a_modCount.keep K25 nin0
  have f25_F_a2_elementData := p24_F_a_elementData.keep K25 nin0
  have f25_F_a2_size := p24_F_a_size.keep K25 nin0
  have hk := Nat.le_trans hk K25.1
  have ne_x3_a : x3 ≠ a := ne_exa p25_E_r f25_L_a.1 (by decide)
  have ne_x3_ea : x3 ≠ ea := own_neEA p25_E_r (hw _ (List.mem_of_getElem? (i := 156) rfl)) f25_L_a
  have ne_x3_q : x3 ≠ q := ne_exa p25_E_r f25_E_q (by decide)
  have ne_x3_a2 : x3 ≠ a2 := ne_exa p25_E_r f25_E_a2 (by decide)
  obtain ⟨cq26, kq26, q26a, q26b, q26c⟩ := isOf hZ rfl f25_E_a2
  obtain ⟨_, _, ⟨T26, L26, k26, n26⟩, -, X26, ⟨Lc26, hQ26, l26, y26, z26⟩, st26⟩ := X25.interfaceBack hx (xi := (⟨"java/util/List", "add", "(Ljava/lang/Object;)Z"⟩ : MethodName)) (y := (⟨"java/util/ArrayList", "add", "(Ljava/lang/Object;)Z"⟩ : MethodName)) hown (mvT hZ (hw _ (List.mem_of_getElem? (i := 33) rfl))) (mvT hZ (hw _ (List.mem_of_getElem? (i := 34) rfl))) (mvT hZ (hw _ (List.mem_of_getElem? (i := 35) rfl))) (mvT hZ (hw _ (List.mem_of_getElem? (i := 36) rfl))) (mvT hZ (hw _ (List.mem_of_getElem? (i := 37) rfl))) (mvT hZ (hw _ (List.mem_of_getElem? (i := 38) rfl))) (mvT hZ (hw _ (List.mem_of_getElem? (i := 39) rfl))) (mvT hZ (hw _ (List.mem_of_getElem? (i := 40) rfl))) (by decide) (backOf (W := 0) (own_add l Z a0 hw [] a2 x3 D cD ich icc kA kS f0 f1 f2 f3 T25.heap n0 O25 K f25_E_a2 f25_F_a2_modCount f25_F_a2_elementData f25_F_a2_size g_a2 (Ins.of_exa p25_E_r (hw _ (List.mem_of_getElem? (i := 67) rfl)))) hZ (hw _ (List.mem_of_getElem? (i := 41) rfl)) (hw _ (List.mem_of_getElem? (i := 2) rfl)) (by decide) (by decide)) q26a q26b q26c (g := (mkF m 201 #[.val (.int p0), .val (.int p1), .val (.int p2), .val (.int p3), .val (.int (2 : Int32)), .val (.ref a), .val (.ref kd), .val (.int ((p3 >>> ((3 : Int32) &&& 31)) &&& (3 : Int32))), .val (.ref fo), .val (.int car), .val (.ref q), .val (.int art), .val (.ref a2), .unset, .unset] [(.ref x3), (.ref a2)])) rfl (by rw [hml]; rfl) (Steps.refl _) (argsL := [(.ref x3)]) (rest := []) (lenOf own_pd10 rfl) rfl (by show 2 * 0 + _ ≤ _; exact Nat.le_of_eq rfl) (hb hby at_201) (fun _ _ => ⟨rfl, rfl, (by decide : 11 + 1 ≤ _), (by decide : 38 + 10 ≤ _)⟩)
  dsimp only [Pt.U, Pt.locs, Pt.cells, Pt.slots] at X26 l26 y26 z26 st26 hQ26
  subst l26 y26 z26
  obtain ⟨ea2, rfl, N26q, O26, K26, p26_L_a, p26_fresh_ea⟩ := hQ26
  have N26 := Fr.app N25 N26q
  have ne_x1_ea2 : x1 ≠ ea2 := Nat.ne_of_lt (Nat.lt_of_lt_of_le f25_E_x1.lt p26_fresh_ea)
  have ne_x2_ea2 : x2 ≠ ea2 := Nat.ne_of_lt (Nat.lt_of_lt_of_le f25_E_x2.lt p26_fresh_ea)
  have ne_a_ea2 : a ≠ ea2 := Nat.ne_of_lt (Nat.lt_of_lt_of_le f25_L_a.1.lt p26_fresh_ea)
  have ne_ea_ea2 : ea ≠ ea2 := Nat.ne_of_lt (Nat.lt_of_lt_of_le (own_AL_lt f25_L_a) p26_fresh_ea)
  have ne_q_ea2 : q ≠ ea2 := Nat.ne_of_lt (Nat.lt_of_lt_of_le f25_E_q.lt p26_fresh_ea)
  have ne_a2_ea2 : a2 ≠ ea2 := Nat.ne_of_lt (Nat.lt_of_lt_of_le f25_E_a2.lt p26_fresh_ea)
  have ne_x3_ea2 : x3 ≠ ea2 := Nat.ne_of_lt (Nat.lt_of_lt_of_le p25_E_r.lt p26_fresh_ea)
  have g_ea2 : n0 ≤ ea2 := Nat.le_trans (Nat.le_trans (Nat.le_of_eq O25.1.symm) O25.2.1) p26_fresh_ea
  have f26_E_x1 := f25_E_x1.keep K26
  have f26_F_x1_value := f25_F_x1_value.keep K26 (ninS ne_x1_a2 nin0)
  have f26_E_x2 := f25_E_x2.keep K26
  have f26_F_x2_value := f25_F_x2_value.keep K26 (ninS ne_x2_a2 nin0)
  have f26_L_a := own_AL_keep f25_L_a K26 (ninS ne_a_a2 nin0) (ninS ne_ea_a2 nin0)
  have f26_E_q := f25_E_q.keep K26
  have f26_F_q_kind := f25_F_q_kind.keep K26 (ninS ne_q_a2 nin0)
  have f26_F_q_value := f25_F_q_value.keep K26 (ninS ne_q_a2 nin0)
  have f26_E_x3 := p25_E_r.keep K26
  have f26_F_x3_value := p25_F_r_value.keep K26 (ninS ne_x3_a2 nin0)
  have hk := Nat.le_trans hk K26.1
  obtain ⟨T27, h27, X27, e27, E27, A27, D27, -, st27⟩ := newO X26 hx hZ hown (hw _ (List.mem_of_getElem? (i := 74) rfl)) (hw _ (List.mem_of_getElem? (i := 75) rfl)) (hw _ (List.mem_of_getElem? (i := 76) rfl)) rfl (g := (mkF m 207 #[.val (.int p0), .val (.int p1), .val (.int p2), .val (.int p3), .val (.int (2 : Int32)), .val (.ref a), .val (.ref kd), .val (.int ((p3 >>> ((3 : Int32) &&& 31)) &&& (3 : Int32))), .val (.ref fo), .val (.int car), .val (.ref q), .val (.int art), .val (.ref a2), .unset, .unset] [])) rfl (hb hby at_207) (by decide) (by decide)
  obtain ⟨q2, g27⟩ : ∃ z, z = T26.heap.size := ⟨_, rfl⟩
  have g_q2 : n0 ≤ q2 := Nat.le_trans (Nat.le_trans (Nat.le_of_eq O26.1.symm) O26.2.1) (Nat.le_of_eq g27.symm)
  have ne_x1_q2 : x1 ≠ q2 := Nat.ne_of_lt (Nat.lt_of_lt_of_le f26_E_x1.lt (Nat.le_of_eq g27.symm))
  have ne_x2_q2 : x2 ≠ q2 := Nat.ne_of_lt (Nat.lt_of_lt_of_le f26_E_x2.lt (Nat.le_of_eq g27.symm))
  have ne_a_q2 : a ≠ q2 := Nat.ne_of_lt (Nat.lt_of_lt_of_le f26_L_a.1.lt (Nat.le_of_eq g27.symm))
  have ne_ea_q2 : ea ≠ q2 := Nat.ne_of_lt (Nat.lt_of_lt_of_le (own_AL_lt f26_L_a) (Nat.le_of_eq g27.symm))
  have ne_q_q2 : q ≠ q2 := Nat.ne_of_lt (Nat.lt_of_lt_of_le f26_E_q.lt (Nat.le_of_eq g27.symm))
  have ne_x3_q2 : x3 ≠ q2 := Nat.ne_of_lt (Nat.lt_of_lt_of_le f26_E_x3.lt (Nat.le_of_eq g27.symm))
  have ne_a2_q2 : a2 ≠ q2 := Nat.ne_of_lt (Nat.lt_of_lt_of_le p26_L_a.1.lt (Nat.le_of_eq g27.symm))
  have ne_ea2_q2 : ea2 ≠ q2 := Nat.ne_of_lt (Nat.lt_of_lt_of_le (own_AL_lt p26_L_a) (Nat.le_of_eq g27.symm))
  rw [← g27] at A27 D27 st27
  have f27_E_x1 := f26_E_x1.ext E27
  have f27_F_x1_value := f26_F_x1_value.ext E27
  have f27_E_x2 := f26_E_x2.ext E27
  have f27_F_x2_value := f26_F_x2_value.ext E27
  have f27_L_a := f26_L_a.ext E27
  have f27_E_q := f26_E_q.ext E27
  have f27_F_q_kind := f26_F_q_kind.ext E27
  have f27_F_q_value := f26_F_q_value.ext E27
  have f27_E_x3 := f26_E_x3.ext E27
  have f27_F_x3_value := f26_F_x3_value.ext E27
  have f27_L_a2 := p26_L_a.ext E27
  have hk := Nat.le_trans hk E27.1
  have O27 := O26.ext E27
  have F27_line : Fld Z h27 q2 "com/example/witnesseth/witnesseth/HeadingLine" "line" "I" (.int (0 : Int32)) := D27 (Or.inr (hw _ (List.mem_of_getElem? (i := 96) rfl))) (ty := .int) (by decide)
  have F27_kind : Fld Z h27 q2 "com/example/witnesseth/witnesseth/HeadingLine" "kind" "Lcom/example/witnesseth/witnesseth/Heading$Kind;" .null := D27 (Or.inr (hw _ (List.mem_of_getElem? (i := 98) rfl))) (ty := (.object "com/example/witnesseth/witnesseth/Heading$Kind")) (by decide)
  have F27_number : Fld Z h27 q2 "com/example/witnesseth/witnesseth/HeadingLine" "number" "Ljava/lang/String;" .null := D27 (Or.inr (hw _ (List.mem_of_getElem? (i := 100) rfl))) (ty := (.object "java/lang/String")) (by decide)
  have F27_value : Fld Z h27 q2 "com/example/witnesseth/witnesseth/HeadingLine" "value" "Ljava/util/List;" .null := D27 (Or.inr (hw _ (List.mem_of_getElem? (i := 102) rfl))) (ty := (.object "java/util/List")) (by decide)
  have F27_rest : Fld Z h27 q2 "com/example/witnesseth/witnesseth/HeadingLine" "rest" "Ljava/lang/String;" .null := D27 (Or.inr (hw _ (List.mem_of_getElem? (i := 104) rfl))) (ty := (.object "java/lang/String")) (by decide)
  have F27_carriesOn : Fld Z h27 q2 "com/example/witnesseth/witnesseth/HeadingLine" "carriesOn" "Z" (.int (0 : Int32)) := D27 (Or.inr (hw _ (List.mem_of_getElem? (i := 106) rfl))) (ty := .boolean) (by decide)
  have F27_form : Fld Z h27 q2 "com/example/witnesseth/witnesseth/HeadingLine" "form" "Lcom/example/witnesseth/witnesseth/HeadingLine$Form;" .null := D27 (Or.inr (hw _ (List.mem_of_getElem? (i := 108) rfl))) (ty := (.object "com/example/witnesseth/witnesseth/HeadingLine$Form")) (by decide)
  obtain ⟨T28, X28, e28, st28⟩ := getS2 X27 hx hZ hown (host := "") (Or.inl (hw _ (List.mem_of_getElem? (i := 68) rfl))) Via.refl e27 (SA.ext O27.2) (g := (mkF m 212 #[.val (.int p0), .val (.int p1), .val (.int p2), .val (.int p3), .val (.int (2 : Int32)), .val (.ref a), .val (.ref kd), .val (.int ((p3 >>> ((3 : Int32) &&& 31)) &&& (3 : Int32))), .val (.ref fo), .val (.int car), .val (.ref q), .val (.int art), .val (.ref a2), .unset, .unset] [(.int (1 : Int32)), (.ref q2), (.ref q2)])) rfl (hb hby at_212)
  obtain ⟨lit29, T29, h29, kk29, X29, e29, E29, hS, hk, hZ, hown, st29⟩ := ldcS (s := s) X28 hx hZ hown (hw _ (List.mem_of_getElem? (i := 77) rfl)) wS e28 hS hk (g := (mkF m 215 #[.val (.int p0), .val (.int p1), .val (.int p2), .val (.int p3), .val (.int (2 : Int32)), .val (.ref a), .val (.ref kd), .val (.int ((p3 >>> ((3 : Int32) &&& 31)) &&& (3 : Int32))), .val (.ref fo), .val (.int car), .val (.ref q), .val (.int art), .val (.ref a2), .unset, .unset] [(.ref kA), (.int (1 : Int32)), (.ref q2), (.ref q2)])) rfl (hb hby at_215) (n := 4) (by decide) (by decide) (by decide) (by decide)
  have f29_E_x1 := f27_E_x1.ext E29
  have f29_F_x1_value := f27_F_x1_value.ext E29
  have f29_E_x2 := f27_E_x2.ext E29
  have f29_F_x2_value := f27_F_x2_value.ext E29
  have f29_L_a := f27_L_a.ext E29
  have f29_E_q := f27_E_q.ext E29
  have f29_F_q_kind := f27_F_q_kind.ext E29
  have f29_F_q_value := f27_F_q_value.ext E29
  have f29_E_x3 := f27_E_x3.ext E29
  have f29_F_x3_value := f27_F_x3_value.ext E29
  have f29_L_a2 := f27_L_a2.ext E29
  have f29_E_q2 := A27.ext E29
  have f29_F_q2_line := F27_line.ext E29
  have f29_F_q2_kind := F27_kind.ext E29
  have f29_F_q2_number := F27_number.ext E29
  have f29_F_q2_value := F27_value.ext E29
  have f29_F_q2_rest := F27_rest.ext E29
  have f29_F_q2_carriesOn := F27_carriesOn.ext E29
  have f29_F_q2_form := F27_form.ext E29
  have O29 := O27.ext E29
  obtain ⟨lit30, T30, h30, kk30, X30, e30, E30, hS, hk, hZ, hown, st30⟩ := ldcS (s := s) X29 hx hZ hown (hw _ (List.mem_of_getElem? (i := 85) rfl)) wS e29 hS hk (g := (mkF m 219 #[.val (.int p0), .val (.int p1), .val (.int p2), .val (.int p3), .val (.int (2 : Int32)), .val (.ref a), .val (.ref kd), .val (.int ((p3 >>> ((3 : Int32) &&& 31)) &&& (3 : Int32))), .val (.ref fo), .val (.int car), .val (.ref q), .val (.int art), .val (.ref a2), .unset, .unset] [(.ref a2), (.ref lit29), (.ref kA), (.int (1 : Int32)), (.ref q2), (.ref q2)])) rfl (hb hby at_219) (n := 0) (by decide) (by decide) (by decide) (by decide)
  have f30_E_x1 := f29_E_x1.ext E30
  have f30_F_x1_value := f29_F_x1_value.ext E30
  have f30_E_x2 := f29_E_x2.ext E30
  have f30_F_x2_value := f29_F_x2_value.ext E30
  have f30_L_a := f29_L_a.ext E30
  have f30_E_q := f29_E_q.ext E30
  have f30_F_q_kind := f29_F_q_kind.ext E30
  have f30_F_q_value := f29_F_q_value.ext E30
  have f30_E_x3 := f29_E_x3.ext E30
  have f30_F_x3_value := f29_F_x3_value.ext E30
  have f30_L_a2 := f29_L_a2.ext E30
  have f30_E_q2 := f29_E_q2.ext E30
  have f30_F_q2_line := f29_F_q2_line.ext E30
  have f30_F_q2_kind := f29_F_q2_kind.ext E30
  have f30_F_q2_number := f29_F_q2_number.ext E30
  have f30_F_q2_value := f29_F_q2_value.ext E30
  have f30_F_q2_rest := f29_F_q2_rest.ext E30
  have f30_F_q2_carriesOn := f29_F_q2_carriesOn.ext E30
  have f30_F_q2_form := f29_F_q2_form.ext E30
  have O30 := O29.ext E30
  obtain ⟨T31, X31, e31, st31⟩ := getS2 X30 hx hZ hown (host := "") (Or.inl (hw _ (List.mem_of_getElem? (i := 71) rfl))) Via.refl e30 (S0.ext O30.2) (g := (mkF m 222 #[.val (.int p0), .val (.int p1), .val (.int p2), .val (.int p3), .val (.int (2 : Int32)), .val (.ref a), .val (.ref kd), .val (.int ((p3 >>> ((3 : Int32) &&& 31)) &&& (3 : Int32))), .val (.ref fo), .val (.int car), .val (.ref q), .val (.int art), .val (.ref a2), .unset, .unset] [(.int (0 : Int32)), (.ref lit30), (.ref a2), (.ref lit29), (.ref kA), (.int (1 : Int32)), (.ref q2), (.ref q2)])) rfl (hb hby at_222)
  obtain ⟨_, _, ⟨T32, L32, k32, n32⟩, -, X32, ⟨Lc32, hQ32, l32, y32, z32⟩, st32⟩ := X31.specialBack hx (y := (⟨"com/example/witnesseth/witnesseth/HeadingLine", "<init>", "(ILcom/example/witnesseth/witnesseth/Heading$Kind;Ljava/lang/String;Ljava/util/List;Ljava/lang/String;ZLcom/example/witnesseth/witnesseth/HeadingLine$Form;)V"⟩ : MethodName)) rfl hown (mvT hZ (hw _ (List.mem_of_getElem? (i := 86) rfl))) (mvT hZ (hw _ (List.mem_of_getElem? (i := 87) rfl))) (mvT hZ (hw _ (List.mem_of_getElem? (i := 88) rfl))) (by decide) (backOf (W := 1) (own_hi l Z a0 hw [] q2 (1 : Int32) kA lit29 a2 lit30 (0 : Int32) f0 h30 n0 O30  f30_E_q2 f30_F_q2_line f30_F_q2_kind f30_F_q2_number f30_F_q2_value f30_F_q2_rest f30_F_q2_carriesOn f30_F_q2_form g_q2) hZ (hw _ (List.mem_of_getElem? (i := 88) rfl)) (hw _ (List.mem_of_getElem? (i := 76) rfl)) (by decide) (by decide)) (g := (mkF m 225 #[.val (.int p0), .val (.int p1), .val (.int p2), .val (.int p3), .val (.int (2 : Int32)), .val (.ref a), .val (.ref kd), .val (.int ((p3 >>> ((3 : Int32) &&& 31)) &&& (3 : Int32))), .val (.ref fo), .val (.int car), .val (.ref q), .val (.int art), .val (.ref a2), .unset, .unset] [(.ref f0), (.int (0 : Int32)), (.ref lit30), (.ref a2), (.ref lit29), (.ref kA), (.int (1 : Int32)), (.ref q2), (.ref q2)])) rfl (by rw [hml]; rfl) (Steps.refl _) (a := q2) (argsL := [(.int (1 : Int32)), (.ref kA), (.ref lit29), (.ref a2), (.ref lit30), (.int (0 : Int32)), (.ref f0)]) (rest := [(.ref q2)]) (lenOf own_pd11 rfl) rfl (by show 2 * 0 + _ ≤ _; exact Nat.le_of_eq rfl) (hb hby at_225) (fun _ _ => ⟨rfl, e31, (by decide : 17 + 0 ≤ _), (by decide : 67 + 0 ≤ _)⟩)
  dsimp only [Pt.U, Pt.locs, Pt.cells, Pt.slots] at X32 l32 y32 z32 st32 hQ32
  subst l32 y32 z32
  obtain ⟨rfl, N32q, O32, K32, p32_E_q, p32_F_q_kind, p32_F_q_value⟩ := hQ32
  have N32 := Fr.app N26 N32q
  have f32_E_x1 := f30_E_x1.keep K32
  have f32_F_x1_value := f30_F_x1_value.keep K32 (ninS ne_x1_q2 nin0)
  have f32_E_x2 := f30_E_x2.keep K32
  have f32_F_x2_value := f30_F_x2_value.keep K32 (ninS ne_x2_q2 nin0)
  have f32_L_a := own_AL_keep f30_L_a K32 (ninS ne_a_q2 nin0) (ninS ne_ea_q2 nin0)
  have f32_E_q := f30_E_q.keep K32
  have f32_F_q_kind := f30_F_q_kind.keep K32 (ninS ne_q_q2 nin0)
  have f32_F_q_value := f30_F_q_value.keep K32 (ninS ne_q_q2 nin0)
  have f32_E_x3 := f30_E_x3.keep K32
  have f32_F_x3_value := f30_F_x3_value.keep K32 (ninS ne_x3_q2 nin0)
  have f32_L_a2 := own_AL_keep f30_L_a2 K32 (ninS ne_a2_q2 nin0) (ninS ne_ea2_q2 nin0)
  have hk := Nat.le_trans hk K32.1
  obtain ⟨T33, X33, e33, st33⟩ := getS2 X32 hx hZ hown (host := "") (Or.inl (hw _ (List.mem_of_getElem? (i := 109) rfl))) Via.refl rfl (SS.ext O32.2) (g := (mkF m 232 #[.val (.int p0), .val (.int p1), .val (.int p2), .val (.int p3), .val (.int (2 : Int32)), .val (.ref a), .val (.ref kd), .val (.int ((p3 >>> ((3 : Int32) &&& 31)) &&& (3 : Int32))), .val (.ref fo), .val (.int car), .val (.ref q), .val (.int art), .val (.ref a2), .val (.ref q2), .unset] [(.ref kd)])) rfl (hb hby at_232)
  obtain ⟨T34, eh, hv34, ⟨X34, e34⟩, st34⟩ : ∃ (T' : State) (eh : Int32), ((kd = kS ∧ ((art = p0 ∧ eh = (1 : Int32)) ∨ (¬ (art = p0) ∧ eh = (0 : Int32)))) ∨ (¬ (kd = kS) ∧ eh = (0 : Int32))) ∧ own_Go X33 T32.heap T' ∧ ∀ target, Steps p.tables e below (T'.setTop (mkF m 249 #[.val (.int p0), .val (.int p1), .val (.int p2), .val (.int p3), .val (.int (2 : Int32)), .val (.ref a), .val (.ref kd), .val (.int ((p3 >>> ((3 : Int32) &&& 31)) &&& (3 : Int32))), .val (.ref fo), .val (.int car), .val (.ref q), .val (.int art), .val (.ref a2), .val (.ref q2), .unset] [(.int eh)])) target → Steps p.tables e below (T33.setTop (mkF m 235 #[.val (.int p0), .val (.int p1), .val (.int p2), .val (.int p3), .val (.int (2 : Int32)), .val (.ref a), .val (.ref kd), .val (.int ((p3 >>> ((3 : Int32) &&& 31)) &&& (3 : Int32))), .val (.ref fo), .val (.int car), .val (.ref q), .val (.int art), .val (.ref a2), .val (.ref q2), .unset] [(.ref kS), (.ref kd)])) target := by
    by_cases hf34 : kd = kS
    · obtain ⟨T35, w35_0, hv35, ⟨X35, e35⟩, st35⟩ : ∃ (T' : State) (w35_0 : Int32), ((art = p0 ∧ w35_0 = (1 : Int32)) ∨ (¬ (art = p0) ∧ w35_0 = (0 : Int32))) ∧ own_Go X33 T32.heap T' ∧ ∀ target, Steps p.tables e below (T'.setTop (mkF m 249 #[.val (.int p0), .val (.int p1), .val (.int p2), .val (.int p3), .val (.int (2 : Int32)), .val (.ref a), .val (.ref kd), .val (.int ((p3 >>> ((3 : Int32) &&& 31)) &&& (3 : Int32))), .val (.ref fo), .val (.int car), .val (.ref q), .val (.int art), .val (.ref a2), .val (.ref q2), .unset] [(.int w35_0)])) target → Steps p.tables e below (T33.setTop (mkF m 241 #[.val (.int p0), .val (.int p1), .val (.int p2), .val (.int p3), .val (.int (2 : Int32)), .val (.ref a), .val (.ref kd), .val (.int ((p3 >>> ((3 : Int32) &&& 31)) &&& (3 : Int32))), .val (.ref fo), .val (.int car), .val (.ref q), .val (.int art), .val (.ref a2), .val (.ref q2), .unset] [(.int p0), (.int art)])) target := by
        by_cases hf35 : art = p0
        · refine ⟨T33, (1 : Int32), Or.inl ⟨hf35, rfl⟩, ⟨X33, e33⟩, fun target kgo_ => ?_⟩
          show Steps p.tables e below (T33.setTop (mkF m 241 #[.val (.int p0), .val (.int p1), .val (.int p2), .val (.int p3), .val (.int (2 : Int32)), .val (.ref a), .val (.ref kd), .val (.int ((p3 >>> ((3 : Int32) &&& 31)) &&& (3 : Int32))), .val (.ref fo), .val (.int car), .val (.ref q), .val (.int art), .val (.ref a2), .val (.ref q2), .unset] [(.int p0), (.int art)])) _
          refine XS.icmpNo X33.here hx rfl (hb hby at_241) rfl (teq hf35).2 ?_
          show Steps p.tables e below (T33.setTop (mkF m 244 #[.val (.int p0), .val (.int p1), .val (.int p2), .val (.int p3), .val (.int (2 : Int32)), .val (.ref a), .val (.ref kd), .val (.int ((p3 >>> ((3 : Int32) &&& 31)) &&& (3 : Int32))), .val (.ref fo), .val (.int car), .val (.ref q), .val (.int art), .val (.ref a2), .val (.ref q2), .unset] [])) _
          refine XS.iconst X33.here hx rfl (hb hby at_244) ?_
          show Steps p.tables e below (T33.setTop (mkF m 245 #[.val (.int p0), .val (.int p1), .val (.int p2), .val (.int p3), .val (.int (2 : Int32)), .val (.ref a), .val (.ref kd), .val (.int ((p3 >>> ((3 : Int32) &&& 31)) &&& (3 : Int32))), .val (.ref fo), .val (.int car), .val (.ref q), .val (.int art), .val (.ref a2), .val (.ref q2), .unset] [(.int (1 : Int32))])) _
          refine XS.goto X33.here hx rfl (pc0 := 245) (pc' := 249) rfl (hb hby at_245) (by decide) (by decide) ?_
          show Steps p.tables e below (T33.setTop (mkF m 249 #[.val (.int p0), .val (.int p1), .val (.int p2), .val (.int p3), .val (.int (2 : Int32)), .val (.ref a), .val (.ref kd), .val (.int ((p3 >>> ((3 : Int32) &&& 31)) &&& (3 : Int32))), .val (.ref fo), .val (.int car), .val (.ref q), .val (.int art), .val (.ref a2), .val (.ref q2), .unset] [(.int (1 : Int32))])) _
          exact kgo_
        · refine ⟨T33, (0 : Int32), Or.inr ⟨hf35, rfl⟩, ⟨X33, e33⟩, fun target kgo_ => ?_⟩
          show Steps p.tables e below (T33.setTop (mkF m 241 #[.val (.int p0), .val (.int p1), .val (.int p2), .val (.int p3), .val (.int (2 : Int32)), .val (.ref a), .val (.ref kd), .val (.int ((p3 >>> ((3 : Int32) &&& 31)) &&& (3 : Int32))), .val (.ref fo), .val (.int car), .val (.ref q), .val (.int art), .val (.ref a2), .val (.ref q2), .unset] [(.int p0), (.int art)])) _
          refine XS.icmpYes X33.here hx rfl (pc0 := 241) (pc' := 248) rfl (hb hby at_241) rfl (feq hf35).2 (by decide) (by decide) ?_
          show Steps p.tables e below (T33.setTop (mkF m 248 #[.val (.int p0), .val (.int p1), .val (.int p2), .val (.int p3), .val (.int (2 : Int32)), .val (.ref a), .val (.ref kd), .val (.int ((p3 >>> ((3 : Int32) &&& 31)) &&& (3 : Int32))), .val (.ref fo), .val (.int car), .val (.ref q), .val (.int art), .val (.ref a2), .val (.ref q2), .unset] [])) _
          refine XS.iconst X33.here hx rfl (hb hby at_248) ?_
          show Steps p.tables e below (T33.setTop (mkF m 249 #[.val (.int p0), .val (.int p1), .val (.int p2), .val (.int p3), .val (.int (2 : Int32)), .val (.ref a), .val (.ref kd), .val (.int ((p3 >>> ((3 : Int32) &&& 31)) &&& (3 : Int32))), .val (.ref fo), .val (.int car), .val (.ref q), .val (.int art), .val (.ref a2), .val (.ref q2), .unset] [(.int (0 : Int32))])) _
          exact kgo_
      refine ⟨T35, w35_0, Or.inl ⟨hf34, hv35⟩, ⟨X35, e35⟩, fun target kgo_ => ?_⟩
      show Steps p.tables e below (T33.setTop (mkF m 235 #[.val (.int p0), .val (.int p1), .val (.int p2), .val (.int p3), .val (.int (2 : Int32)), .val (.ref a), .val (.ref kd), .val (.int ((p3 >>> ((3 : Int32) &&& 31)) &&& (3 : Int32))), .val (.ref fo), .val (.int car), .val (.ref q), .val (.int art), .val (.ref a2), .val (.ref q2), .unset] [(.ref kS), (.ref kd)])) _
      refine Jvm.RoadKit.acmp (g := (mkF m 235 #[.val (.int p0), .val (.int p1), .val (.int p2), .val (.int p3), .val (.int (2 : Int32)), .val (.ref a), .val (.ref kd), .val (.int ((p3 >>> ((3 : Int32) &&& 31)) &&& (3 : Int32))), .val (.ref fo), .val (.int car), .val (.ref q), .val (.int art), .val (.ref a2), .val (.ref q2), .unset] [(.ref kS), (.ref kd)])) X33 hx rfl rfl rfl (pc0 := 235) (pc' := 238) (same := true) rfl (hb hby at_235) rfl (decide_eq_true (congrArg Value.ref hf34)) (by decide) (by decide) ?_
      show Steps p.tables e below (T33.setTop (mkF m 238 #[.val (.int p0), .val (.int p1), .val (.int p2), .val (.int p3), .val (.int (2 : Int32)), .val (.ref a), .val (.ref kd), .val (.int ((p3 >>> ((3 : Int32) &&& 31)) &&& (3 : Int32))), .val (.ref fo), .val (.int car), .val (.ref q), .val (.int art), .val (.ref a2), .val (.ref q2), .unset] [])) _
      refine XS.iload X33.here hx rfl (hb hby at_238) rfl ?_
      show Steps p.tables e below (T33.setTop (mkF m 240 #[.val (.int p0), .val (.int p1), .val (.int p2), .val (.int p3), .val (.int (2 : Int32)), .val (.ref a), .val (.ref kd), .val (.int ((p3 >>> ((3 : Int32) &&& 31)) &&& (3 : Int32))), .val (.ref fo), .val (.int car), .val (.ref q), .val (.int art), .val (.ref a2), .val (.ref q2), .unset] [(.int art)])) _
      refine XS.iloadN X33.here hx rfl (hb hby at_240) rfl ?_
      refine st35 _ ?_
      show Steps p.tables e below (T35.setTop (mkF m 249 #[.val (.int p0), .val (.int p1), .val (.int p2), .val (.int p3), .val (.int (2 : Int32)), .val (.ref a), .val (.ref kd), .val (.int ((p3 >>> ((3 : Int32) &&& 31)) &&& (3 : Int32))), .val (.ref fo), .val (.int car), .val (.ref q), .val (.int art), .val (.ref a2), .val (.ref q2), .unset] [(.int w35_0)])) _
      exact kgo_
    · refine ⟨T33, (0 : Int32), Or.inr ⟨hf34, rfl⟩, ⟨X33, e33⟩, fun target kgo_ => ?_⟩
      show Steps p.tables e below (T33.setTop (mkF m 235 #[.val (.int p0), .val (.int p1), .val (.int p2), .val (.int p3), .val (.int (2 : Int32)), .val (.ref a), .val (.ref kd), .val (.int ((p3 >>> ((3 : Int32) &&& 31)) &&& (3 : Int32))), .val (.ref fo), .val (.int car), .val (.ref q), .val (.int art), .val (.ref a2), .val (.ref q2), .unset] [(.ref kS), (.ref kd)])) _
      refine Jvm.RoadKit.acmp (g := (mkF m 235 #[.val (.int p0), .val (.int p1), .val (.int p2), .val (.int p3), .val (.int (2 : Int32)), .val (.ref a), .val (.ref kd), .val (.int ((p3 >>> ((3 : Int32) &&& 31)) &&& (3 : Int32))), .val (.ref fo), .val (.int car), .val (.ref q), .val (.int art), .val (.ref a2), .val (.ref q2), .unset] [(.ref kS), (.ref kd)])) X33 hx rfl rfl rfl (pc0 := 235) (pc' := 248) (same := false) rfl (hb hby at_235) rfl (decide_eq_false fun q => hf34 (Value.ref.inj q)) (by decide) (by decide) ?_
      show Steps p.tables e below (T33.setTop (mkF m 248 #[.val (.int p0), .val (.int p1), .val (.int p2), .val (.int p3), .val (.int (2 : Int32)), .val (.ref a), .val (.ref kd), .val (.int ((p3 >>> ((3 : Int32) &&& 31)) &&& (3 : Int32))), .val (.ref fo), .val (.int car), .val (.ref q), .val (.int art), .val (.ref a2), .val (.ref q2), .unset] [])) _
      refine XS.iconst X33.here hx rfl (hb hby at_248) ?_
      show Steps p.tables e below (T33.setTop (mkF m 249 #[.val (.int p0), .val (.int p1), .val (.int p2), .val (.int p3), .val (.int (2 : Int32)), .val (.ref a), .val (.ref kd), .val (.int ((p3 >>> ((3 : Int32) &&& 31)) &&& (3 : Int32))), .val (.ref fo), .val (.int car), .val (.ref q), .val (.int art), .val (.ref a2), .val (.ref q2), .unset] [(.int (0 : Int32))])) _
      exact kgo_
  obtain ⟨cq36, kq36, q36a, q36b, q36c⟩ := isOf hZ e34 f32_E_q
  obtain ⟨_, _, ⟨T36, L36, k36, n36⟩, -, X36, ⟨Lc36, hQ36, l36, y36, z36⟩, st36⟩ := X34.virtualBack hx (y := (⟨"com/example/witnesseth/witnesseth/HeadingLine", "article", "()I"⟩ : MethodName)) (z := (⟨"com/example/witnesseth/witnesseth/HeadingLine", "article", "()I"⟩ : MethodName)) hown (mvT hZ (hw _ (List.mem_of_getElem? (i := 111) rfl))) (mvT hZ (hw _ (List.mem_of_getElem? (i := 112) rfl))) (notFace_of_selects (args := #[]) (mvT hZ (hw _ (List.mem_of_getElem? (i := 114) rfl)))) (mvT hZ (hw _ (List.mem_of_getElem? (i := 114) rfl))) (mvT hZ (hw _ (List.mem_of_getElem? (i := 113) rfl))) (by decide) (backOf (W := 0) (own_art2 l Z a0 hw [] q a ea (own_uv (own_uv (fun _ => Value.null) 0 (.ref x1)) 1 (.ref x2)) x1 p0 T32.heap n0 O32  f32_F_q_value f32_L_a f32_E_x1 f32_F_x1_value rfl) hZ (hw _ (List.mem_of_getElem? (i := 115) rfl)) (hw _ (List.mem_of_getElem? (i := 76) rfl)) (by decide) (by decide)) q36a q36c (g := (mkF m 253 #[.val (.int p0), .val (.int p1), .val (.int p2), .val (.int p3), .val (.int (2 : Int32)), .val (.ref a), .val (.ref kd), .val (.int ((p3 >>> ((3 : Int32) &&& 31)) &&& (3 : Int32))), .val (.ref fo), .val (.int car), .val (.ref q), .val (.int art), .val (.ref a2), .val (.ref q2), .val (.int eh)] [(.ref q)])) rfl (by rw [hml]; rfl) (Steps.refl _) (argsL := []) (rest := []) (lenOf own_pd8 rfl) rfl (by show 2 * 0 + _ ≤ _; exact Nat.le_of_eq rfl) (hb hby at_253) (fun _ _ => ⟨rfl, e34, (by decide : 17 + 0 ≤ _), (by decide : 67 + 0 ≤ _)⟩)
  dsimp only [Pt.U, Pt.locs, Pt.cells, Pt.slots] at X36 l36 y36 z36 st36 hQ36
  subst l36 y36 z36
  obtain ⟨rfl, rfl, e36⟩ := hQ36
  try rw [List.append_nil] at X36
  obtain ⟨cq37, kq37, q37a, q37b, q37c⟩ := isOf hZ e36 p32_E_q
  obtain ⟨_, _, ⟨T37, L37, k37, n37⟩, -, X37, ⟨Lc37, hQ37, l37, y37, z37⟩, st37⟩ := X36.virtualBack hx (y := (⟨"com/example/witnesseth/witnesseth/HeadingLine", "article", "()I"⟩ : MethodName)) (z := (⟨"com/example/witnesseth/witnesseth/HeadingLine", "article", "()I"⟩ : MethodName)) hown (mvT hZ (hw _ (List.mem_of_getElem? (i := 111) rfl))) (mvT hZ (hw _ (List.mem_of_getElem? (i := 112) rfl))) (notFace_of_selects (args := #[]) (mvT hZ (hw _ (List.mem_of_getElem? (i := 114) rfl)))) (mvT hZ (hw _ (List.mem_of_getElem? (i := 114) rfl))) (mvT hZ (hw _ (List.mem_of_getElem? (i := 113) rfl))) (by decide) (backOf (W := 0) (own_art1 l Z a0 hw [] q2 a2 ea2 (own_uv (fun _ => Value.null) 0 (.ref x3)) x3 art T32.heap n0 O32  p32_F_q_value f32_L_a2 f32_E_x3 f32_F_x3_value rfl) hZ (hw _ (List.mem_of_getElem? (i := 115) rfl)) (hw _ (List.mem_of_getElem? (i := 76) rfl)) (by decide) (by decide)) q37a q37c (g := (mkF m 262 #[.val (.int p0), .val (.int p1), .val (.int p2), .val (.int p3), .val (.int (2 : Int32)), .val (.ref a), .val (.ref kd), .val (.int ((p3 >>> ((3 : Int32) &&& 31)) &&& (3 : Int32))), .val (.ref fo), .val (.int car), .val (.ref q), .val (.int art), .val (.ref a2), .val (.ref q2), .val (.int eh)] [(.ref q2)])) rfl (by rw [hml]; rfl) (Steps.refl _) (argsL := []) (rest := []) (lenOf own_pd8 rfl) rfl (by show 2 * 0 + _ ≤ _; exact Nat.le_of_eq rfl) (hb hby at_262) (fun _ _ => ⟨rfl, e36, (by decide : 17 + 0 ≤ _), (by decide : 67 + 0 ≤ _)⟩)
  dsimp only [Pt.U, Pt.locs, Pt.cells, Pt.slots] at X37 l37 y37 z37 st37 hQ37
  subst l37 y37 z37
  obtain ⟨rfl, rfl, e37⟩ := hQ37
  try rw [List.append_nil] at X37
  obtain ⟨cq38, kq38, q38a, q38b, q38c⟩ := isOf hZ e37 p32_E_q
  obtain ⟨_, _, ⟨T38, L38, k38, n38⟩, -, X38, ⟨Lc38, hQ38, l38, y38, z38⟩, st38⟩ := X37.virtualBack hx (y := (⟨"com/example/witnesseth/witnesseth/HeadingLine", "holds", "(Lcom/example/witnesseth/witnesseth/HeadingLine;)Z"⟩ : MethodName)) (z := (⟨"com/example/witnesseth/witnesseth/HeadingLine", "holds", "(Lcom/example/witnesseth/witnesseth/HeadingLine;)Z"⟩ : MethodName)) hown (mvT hZ (hw _ (List.mem_of_getElem? (i := 146) rfl))) (mvT hZ (hw _ (List.mem_of_getElem? (i := 147) rfl))) (notFace_of_selects (args := #[]) (mvT hZ (hw _ (List.mem_of_getElem? (i := 149) rfl)))) (mvT hZ (hw _ (List.mem_of_getElem? (i := 149) rfl))) (mvT hZ (hw _ (List.mem_of_getElem? (i := 148) rfl))) (by decide) (backOf (W := 0) (own_h3_12 l Z a0 hw [] q2 q D cD ich icc kA kS f0 f1 f2 f3 kA kd a2 ea2 (own_uv (fun _ => Value.null) 0 (.ref x3)) x3 art a ea (own_uv (own_uv (fun _ => Value.null) 0 (.ref x1)) 1 (.ref x2)) x1 p0 T32.heap n0 O32 K p32_E_q f32_E_q p32_F_q_kind f32_F_q_kind p32_F_q_value f32_L_a2 f32_E_x3 f32_F_x3_value rfl f32_F_q_value f32_L_a f32_E_x1 f32_F_x1_value rfl) hZ (hw _ (List.mem_of_getElem? (i := 150) rfl)) (hw _ (List.mem_of_getElem? (i := 76) rfl)) (by decide) (by decide)) q38a q38c (g := (mkF m 274 #[.val (.int p0), .val (.int p1), .val (.int p2), .val (.int p3), .val (.int (2 : Int32)), .val (.ref a), .val (.ref kd), .val (.int ((p3 >>> ((3 : Int32) &&& 31)) &&& (3 : Int32))), .val (.ref fo), .val (.int car), .val (.ref q), .val (.int art), .val (.ref a2), .val (.ref q2), .val (.int eh)] [(.ref q), (.ref q2)])) rfl (by rw [hml]; rfl) (Steps.refl _) (argsL := [(.ref q)]) (rest := []) (lenOf own_pd12 rfl) rfl (by show 2 * 0 + _ ≤ _; exact Nat.le_of_eq rfl) (hb hby at_274) (fun _ _ => ⟨rfl, e37, (by decide : 17 + 0 ≤ _), (by decide : 67 + 0 ≤ _)⟩)
  dsimp only [Pt.U, Pt.locs, Pt.cells, Pt.slots] at X38 l38 y38 z38 st38 hQ38
  subst l38 y38 z38
  obtain ⟨rb1, rfl, rfl, e38, rel_rb1⟩ := hQ38
  try rw [List.append_nil] at X38
  obtain ⟨fs, hr, hrun, hended, hend⟩ := X38.leaveW hS (by rw [show T38.heap = T32.heap from e38]; exact hk) (v := some (.int (1 : Int32))) (fun h => by rw [Bd.returns] at h; cases h)
  refine ⟨_, _, pre0 _ ?_, hrun, hended, _, _, rfl, ?_, ⟨hend.1, hend.2.1, hend.2.2.1, hend.2.2.2.mono (by decide) (by decide)⟩⟩
  · show Steps p.tables e below (s₁.setTop (mkF m 0 #[.val (.int p0), .val (.int p1), .val (.int p2), .val (.int p3), .unset, .unset, .unset, .unset, .unset, .unset, .unset, .unset, .unset, .unset, .unset] [])) _
    refine XS.iloadN X0.here hx rfl (hb hby at_0) rfl ?_
    show Steps p.tables e below (s₁.setTop (mkF m 1 #[.val (.int p0), .val (.int p1), .val (.int p2), .val (.int p3), .unset, .unset, .unset, .unset, .unset, .unset, .unset, .unset, .unset, .unset, .unset] [(.int p3)])) _
    refine XS.iconst X0.here hx rfl (hb hby at_1) ?_
    show Steps p.tables e below (s₁.setTop (mkF m 2 #[.val (.int p0), .val (.int p1), .val (.int p2), .val (.int p3), .unset, .unset, .unset, .unset, .unset, .unset, .unset, .unset, .unset, .unset, .unset] [(.int (3 : Int32)), (.int p3)])) _
    refine XS.iand X0.here hx rfl (hb hby at_2) rfl ?_
    show Steps p.tables e below (s₁.setTop (mkF m 3 #[.val (.int p0), .val (.int p1), .val (.int p2), .val (.int p3), .unset, .unset, .unset, .unset, .unset, .unset, .unset, .unset, .unset, .unset, .unset] [(.int (p3 &&& (3 : Int32)))])) _
    refine XS.iconst X0.here hx rfl (hb hby at_3) ?_
    show Steps p.tables e below (s₁.setTop (mkF m 4 #[.val (.int p0), .val (.int p1), .val (.int p2), .val (.int p3), .unset, .unset, .unset, .unset, .unset, .unset, .unset, .unset, .unset, .unset, .unset] [(.int (3 : Int32)), (.int (p3 &&& (3 : Int32)))])) _
    refine iremM X0 hx rfl (hb hby at_4) rfl (by decide) ?_
    show Steps p.tables e below (s₁.setTop (mkF m 5 #[.val (.int p0), .val (.int p1), .val (.int p2), .val (.int p3), .unset, .unset, .unset, .unset, .unset, .unset, .unset, .unset, .unset, .unset, .unset] [(.int ((p3 &&& (3 : Int32)) % (3 : Int32)))])) _
    rw [hc]
    show Steps p.tables e below (s₁.setTop (mkF m 5 #[.val (.int p0), .val (.int p1), .val (.int p2), .val (.int p3), .unset, .unset, .unset, .unset, .unset, .unset, .unset, .unset, .unset, .unset, .unset] [(.int (1 : Int32))])) _
    refine XS.iconst X0.here hx rfl (hb hby at_5) ?_
    show Steps p.tables e below (s₁.setTop (mkF m 6 #[.val (.int p0), .val (.int p1), .val (.int p2), .val (.int p3), .unset, .unset, .unset, .unset, .unset, .unset, .unset, .unset, .unset, .unset, .unset] [(.int (1 : Int32)), (.int (1 : Int32))])) _
    refine XS.iadd X0.here hx rfl (hb hby at_6) rfl ?_
    show Steps p.tables e below (s₁.setTop (mkF m 7 #[.val (.int p0), .val (.int p1), .val (.int p2), .val (.int p3), .unset, .unset, .unset, .unset, .unset, .unset, .unset, .unset, .unset, .unset, .unset] [(.int ((1 : Int32) + (1 : Int32)))])) _
    rw [show ((1 : Int32) + (1 : Int32)) = (2 : Int32) from by decide]
    show Steps p.tables e below (s₁.setTop (mkF m 7 #[.val (.int p0), .val (.int p1), .val (.int p2), .val (.int p3), .unset, .unset, .unset, .unset, .unset, .unset, .unset, .unset, .unset, .unset, .unset] [(.int (2 : Int32))])) _
    refine XS.istore X0.here hx rfl (hb hby at_7) rfl (l' := #[.val (.int p0), .val (.int p1), .val (.int p2), .val (.int p3), .val (.int (2 : Int32)), .unset, .unset, .unset, .unset, .unset, .unset, .unset, .unset, .unset, .unset]) rfl ?_
    show Steps p.tables e below (s₁.setTop (mkF m 9 #[.val (.int p0), .val (.int p1), .val (.int p2), .val (.int p3), .val (.int (2 : Int32)), .unset, .unset, .unset, .unset, .unset, .unset, .unset, .unset, .unset, .unset] [])) _
    refine st1 _ ?_
    show Steps p.tables e below (T1.setTop (mkF m 12 #[.val (.int p0), .val (.int p1), .val (.int p2), .val (.int p3), .val (.int (2 : Int32)), .unset, .unset, .unset, .unset, .unset, .unset, .unset, .unset, .unset, .unset] [(.ref a)])) _
    refine XS.dup X1.here hx rfl (hb hby at_12) rfl rfl ?_
    show Steps p.tables e below (T1.setTop (mkF m 13 #[.val (.int p0), .val (.int p1), .val (.int p2), .val (.int p3), .val (.int (2 : Int32)), .unset, .unset, .unset, .unset, .unset, .unset, .unset, .unset, .unset, .unset] [(.ref a), (.ref a)])) _
    refine st2.trans ?_
    show Steps p.tables e below (T2.setTop (mkF m 16 #[.val (.int p0), .val (.int p1), .val (.int p2), .val (.int p3), .val (.int (2 : Int32)), .unset, .unset, .unset, .unset, .unset, .unset, .unset, .unset, .unset, .unset] [(.ref a)])) _
    refine XS.astore X2.here hx rfl (hb hby at_16) rfl rfl (l' := #[.val (.int p0), .val (.int p1), .val (.int p2), .val (.int p3), .val (.int (2 : Int32)), .val (.ref a), .unset, .unset, .unset, .unset, .unset, .unset, .unset, .unset, .unset]) rfl ?_
    show Steps p.tables e below (T2.setTop (mkF m 18 #[.val (.int p0), .val (.int p1), .val (.int p2), .val (.int p3), .val (.int (2 : Int32)), .val (.ref a), .unset, .unset, .unset, .unset, .unset, .unset, .unset, .unset, .unset] [])) _
    refine XS.aload X2.here hx rfl (hb hby at_18) rfl rfl ?_
    show Steps p.tables e below (T2.setTop (mkF m 20 #[.val (.int p0), .val (.int p1), .val (.int p2), .val (.int p3), .val (.int (2 : Int32)), .val (.ref a), .unset, .unset, .unset, .unset, .unset, .unset, .unset, .unset, .unset] [(.ref a)])) _
    refine XS.iloadN X2.here hx rfl (hb hby at_20) rfl ?_
    show Steps p.tables e below (T2.setTop (mkF m 21 #[.val (.int p0), .val (.int p1), .val (.int p2), .val (.int p3), .val (.int (2 : Int32)), .val (.ref a), .unset, .unset, .unset, .unset, .unset, .unset, .unset, .unset, .unset] [(.int p0), (.ref a)])) _
    refine st3 _ ?_
    show Steps p.tables e below (T3.setTop (mkF m 24 #[.val (.int p0), .val (.int p1), .val (.int p2), .val (.int p3), .val (.int (2 : Int32)), .val (.ref a), .unset, .unset, .unset, .unset, .unset, .unset, .unset, .unset, .unset] [(.ref x1), (.ref a)])) _
    refine st4.trans ?_
    show Steps p.tables e below (T4.setTop (mkF m 29 #[.val (.int p0), .val (.int p1), .val (.int p2), .val (.int p3), .val (.int (2 : Int32)), .val (.ref a), .unset, .unset, .unset, .unset, .unset, .unset, .unset, .unset, .unset] [(.int (1 : Int32))])) _
    refine XS.pop X4.here hx rfl (hb hby at_29) rfl rfl ?_
    show Steps p.tables e below (T4.setTop (mkF m 30 #[.val (.int p0), .val (.int p1), .val (.int p2), .val (.int p3), .val (.int (2 : Int32)), .val (.ref a), .unset, .unset, .unset, .unset, .unset, .unset, .unset, .unset, .unset] [])) _
    refine XS.iload X4.here hx rfl (hb hby at_30) rfl ?_
    show Steps p.tables e below (T4.setTop (mkF m 32 #[.val (.int p0), .val (.int p1), .val (.int p2), .val (.int p3), .val (.int (2 : Int32)), .val (.ref a), .unset, .unset, .unset, .unset, .unset, .unset, .unset, .unset, .unset] [(.int (2 : Int32))])) _
    refine XS.iconst X4.here hx rfl (hb hby at_32) ?_
    show Steps p.tables e below (T4.setTop (mkF m 33 #[.val (.int p0), .val (.int p1), .val (.int p2), .val (.int p3), .val (.int (2 : Int32)), .val (.ref a), .unset, .unset, .unset, .unset, .unset, .unset, .unset, .unset, .unset] [(.int (2 : Int32)), (.int (2 : Int32))])) _
    refine XS.icmpNo X4.here hx rfl (hb hby at_33) rfl (flt (by decide : ¬ ((2 : Int32) < (2 : Int32)))).1 ?_
    show Steps p.tables e below (T4.setTop (mkF m 36 #[.val (.int p0), .val (.int p1), .val (.int p2), .val (.int p3), .val (.int (2 : Int32)), .val (.ref a), .unset, .unset, .unset, .unset, .unset, .unset, .unset, .unset, .unset] [])) _
    refine XS.aload X4.here hx rfl (hb hby at_36) rfl rfl ?_
    show Steps p.tables e below (T4.setTop (mkF m 38 #[.val (.int p0), .val (.int p1), .val (.int p2), .val (.int p3), .val (.int (2 : Int32)), .val (.ref a), .unset, .unset, .unset, .unset, .unset, .unset, .unset, .unset, .unset] [(.ref a)])) _
    refine XS.iloadN X4.here hx rfl (hb hby at_38) rfl ?_
    show Steps p.tables e below (T4.setTop (mkF m 39 #[.val (.int p0), .val (.int p1), .val (.int p2), .val (.int p3), .val (.int (2 : Int32)), .val (.ref a), .unset, .unset, .unset, .unset, .unset, .unset, .unset, .unset, .unset] [(.int p1), (.ref a)])) _
    refine st5 _ ?_
    show Steps p.tables e below (T5.setTop (mkF m 42 #[.val (.int p0), .val (.int p1), .val (.int p2), .val (.int p3), .val (.int (2 : Int32)), .val (.ref a), .unset, .unset, .unset, .unset, .unset, .unset, .unset, .unset, .unset] [(.ref x2), (.ref a)])) _
    refine st6.trans ?_
    show Steps p.tables e below (T6.setTop (mkF m 47 #[.val (.int p0), .val (.int p1), .val (.int p2), .val (.int p3), .val (.int (2 : Int32)), .val (.ref a), .unset, .unset, .unset, .unset, .unset, .unset, .unset, .unset, .unset] [(.int (1 : Int32))])) _
    refine XS.pop X6.here hx rfl (hb hby at_47) rfl rfl ?_
    show Steps p.tables e below (T6.setTop (mkF m 48 #[.val (.int p0), .val (.int p1), .val (.int p2), .val (.int p3), .val (.int (2 : Int32)), .val (.ref a), .unset, .unset, .unset, .unset, .unset, .unset, .unset, .unset, .unset] [])) _
    refine XS.iload X6.here hx rfl (hb hby at_48) rfl ?_
    show Steps p.tables e below (T6.setTop (mkF m 50 #[.val (.int p0), .val (.int p1), .val (.int p2), .val (.int p3), .val (.int (2 : Int32)), .val (.ref a), .unset, .unset, .unset, .unset, .unset, .unset, .unset, .unset, .unset] [(.int (2 : Int32))])) _
    refine XS.iconst X6.here hx rfl (hb hby at_50) ?_
    show Steps p.tables e below (T6.setTop (mkF m 51 #[.val (.int p0), .val (.int p1), .val (.int p2), .val (.int p3), .val (.int (2 : Int32)), .val (.ref a), .unset, .unset, .unset, .unset, .unset, .unset, .unset, .unset, .unset] [(.int (3 : Int32)), (.int (2 : Int32))])) _
    refine XS.icmpYes X6.here hx rfl (pc0 := 51) (pc' := 66) rfl (hb hby at_51) rfl (tlt (by decide : (2 : Int32) < (3 : Int32))).1 (by decide) (by decide) ?_
    show Steps p.tables e below (T6.setTop (mkF m 66 #[.val (.int p0), .val (.int p1), .val (.int p2), .val (.int p3), .val (.int (2 : Int32)), .val (.ref a), .unset, .unset, .unset, .unset, .unset, .unset, .unset, .unset, .unset] [])) _
    refine XS.iloadN X6.here hx rfl (hb hby at_66) rfl ?_
    show Steps p.tables e below (T6.setTop (mkF m 67 #[.val (.int p0), .val (.int p1), .val (.int p2), .val (.int p3), .val (.int (2 : Int32)), .val (.ref a), .unset, .unset, .unset, .unset, .unset, .unset, .unset, .unset, .unset] [(.int p3)])) _
    refine XS.iconst X6.here hx rfl (hb hby at_67) ?_
    show Steps p.tables e below (T6.setTop (mkF m 68 #[.val (.int p0), .val (.int p1), .val (.int p2), .val (.int p3), .val (.int (2 : Int32)), .val (.ref a), .unset, .unset, .unset, .unset, .unset, .unset, .unset, .unset, .unset] [(.int (2 : Int32)), (.int p3)])) _
    refine XS.ishr X6.here hx rfl (hb hby at_68) rfl ?_
    show Steps p.tables e below (T6.setTop (mkF m 69 #[.val (.int p0), .val (.int p1), .val (.int p2), .val (.int p3), .val (.int (2 : Int32)), .val (.ref a), .unset, .unset, .unset, .unset, .unset, .unset, .unset, .unset, .unset] [(.int (p3 >>> ((2 : Int32) &&& 31)))])) _
    refine XS.iconst X6.here hx rfl (hb hby at_69) ?_
    show Steps p.tables e below (T6.setTop (mkF m 70 #[.val (.int p0), .val (.int p1), .val (.int p2), .val (.int p3), .val (.int (2 : Int32)), .val (.ref a), .unset, .unset, .unset, .unset, .unset, .unset, .unset, .unset, .unset] [(.int (1 : Int32)), (.int (p3 >>> ((2 : Int32) &&& 31)))])) _
    refine XS.iand X6.here hx rfl (hb hby at_70) rfl ?_
    refine st7 _ ?_
    show Steps p.tables e below (T7.setTop (mkF m 83 #[.val (.int p0), .val (.int p1), .val (.int p2), .val (.int p3), .val (.int (2 : Int32)), .val (.ref a), .unset, .unset, .unset, .unset, .unset, .unset, .unset, .unset, .unset] [(.ref kd)])) _
    refine XS.astore X7.here hx rfl (hb hby at_83) rfl rfl (l' := #[.val (.int p0), .val (.int p1), .val (.int p2), .val (.int p3), .val (.int (2 : Int32)), .val (.ref a), .val (.ref kd), .unset, .unset, .unset, .unset, .unset, .unset, .unset, .unset]) rfl ?_
    show Steps p.tables e below (T7.setTop (mkF m 85 #[.val (.int p0), .val (.int p1), .val (.int p2), .val (.int p3), .val (.int (2 : Int32)), .val (.ref a), .val (.ref kd), .unset, .unset, .unset, .unset, .unset, .unset, .unset, .unset] [])) _
    refine XS.iloadN X7.here hx rfl (hb hby at_85) rfl ?_
    show Steps p.tables e below (T7.setTop (mkF m 86 #[.val (.int p0), .val (.int p1), .val (.int p2), .val (.int p3), .val (.int (2 : Int32)), .val (.ref a), .val (.ref kd), .unset, .unset, .unset, .unset, .unset, .unset, .unset, .unset] [(.int p3)])) _
    refine XS.iconst X7.here hx rfl (hb hby at_86) ?_
    show Steps p.tables e below (T7.setTop (mkF m 87 #[.val (.int p0), .val (.int p1), .val (.int p2), .val (.int p3), .val (.int (2 : Int32)), .val (.ref a), .val (.ref kd), .unset, .unset, .unset, .unset, .unset, .unset, .unset, .unset] [(.int (3 : Int32)), (.int p3)])) _
    refine XS.ishr X7.here hx rfl (hb hby at_87) rfl ?_
    show Steps p.tables e below (T7.setTop (mkF m 88 #[.val (.int p0), .val (.int p1), .val (.int p2), .val (.int p3), .val (.int (2 : Int32)), .val (.ref a), .val (.ref kd), .unset, .unset, .unset, .unset, .unset, .unset, .unset, .unset] [(.int (p3 >>> ((3 : Int32) &&& 31)))])) _
    refine XS.iconst X7.here hx rfl (hb hby at_88) ?_
    show Steps p.tables e below (T7.setTop (mkF m 89 #[.val (.int p0), .val (.int p1), .val (.int p2), .val (.int p3), .val (.int (2 : Int32)), .val (.ref a), .val (.ref kd), .unset, .unset, .unset, .unset, .unset, .unset, .unset, .unset] [(.int (3 : Int32)), (.int (p3 >>> ((3 : Int32) &&& 31)))])) _
    refine XS.iand X7.here hx rfl (hb hby at_89) rfl ?_
    show Steps p.tables e below (T7.setTop (mkF m 90 #[.val (.int p0), .val (.int p1), .val (.int p2), .val (.int p3), .val (.int (2 : Int32)), .val (.ref a), .val (.ref kd), .unset, .unset, .unset, .unset, .unset, .unset, .unset, .unset] [(.int ((p3 >>> ((3 : Int32) &&& 31)) &&& (3 : Int32)))])) _
    refine XS.istore X7.here hx rfl (hb hby at_90) rfl (l' := #[.val (.int p0), .val (.int p1), .val (.int p2), .val (.int p3), .val (.int (2 : Int32)), .val (.ref a), .val (.ref kd), .val (.int ((p3 >>> ((3 : Int32) &&& 31)) &&& (3 : Int32))), .unset, .unset, .unset, .unset, .unset, .unset, .unset]) rfl ?_
    show Steps p.tables e below (T7.setTop (mkF m 92 #[.val (.int p0), .val (.int p1), .val (.int p2), .val (.int p3), .val (.int (2 : Int32)), .val (.ref a), .val (.ref kd), .val (.int ((p3 >>> ((3 : Int32) &&& 31)) &&& (3 : Int32))), .unset, .unset, .unset, .unset, .unset, .unset, .unset] [])) _
    refine XS.iload X7.here hx rfl (hb hby at_92) rfl ?_
    refine st10 _ ?_
    show Steps p.tables e below (T10.setTop (mkF m 130 #[.val (.int p0), .val (.int p1), .val (.int p2), .val (.int p3), .val (.int (2 : Int32)), .val (.ref a), .val (.ref kd), .val (.int ((p3 >>> ((3 : Int32) &&& 31)) &&& (3 : Int32))), .unset, .unset, .unset, .unset, .unset, .unset, .unset] [(.ref fo)])) _
    refine XS.astore X10.here hx rfl (hb hby at_130) rfl rfl (l' := #[.val (.int p0), .val (.int p1), .val (.int p2), .val (.int p3), .val (.int (2 : Int32)), .val (.ref a), .val (.ref kd), .val (.int ((p3 >>> ((3 : Int32) &&& 31)) &&& (3 : Int32))), .val (.ref fo), .unset, .unset, .unset, .unset, .unset, .unset]) rfl ?_
    show Steps p.tables e below (T10.setTop (mkF m 132 #[.val (.int p0), .val (.int p1), .val (.int p2), .val (.int p3), .val (.int (2 : Int32)), .val (.ref a), .val (.ref kd), .val (.int ((p3 >>> ((3 : Int32) &&& 31)) &&& (3 : Int32))), .val (.ref fo), .unset, .unset, .unset, .unset, .unset, .unset] [])) _
    refine XS.iloadN X10.here hx rfl (hb hby at_132) rfl ?_
    show Steps p.tables e below (T10.setTop (mkF m 133 #[.val (.int p0), .val (.int p1), .val (.int p2), .val (.int p3), .val (.int (2 : Int32)), .val (.ref a), .val (.ref kd), .val (.int ((p3 >>> ((3 : Int32) &&& 31)) &&& (3 : Int32))), .val (.ref fo), .unset, .unset, .unset, .unset, .unset, .unset] [(.int p3)])) _
    refine XS.iconst X10.here hx rfl (hb hby at_133) ?_
    show Steps p.tables e below (T10.setTop (mkF m 134 #[.val (.int p0), .val (.int p1), .val (.int p2), .val (.int p3), .val (.int (2 : Int32)), .val (.ref a), .val (.ref kd), .val (.int ((p3 >>> ((3 : Int32) &&& 31)) &&& (3 : Int32))), .val (.ref fo), .unset, .unset, .unset, .unset, .unset, .unset] [(.int (5 : Int32)), (.int p3)])) _
    refine XS.ishr X10.here hx rfl (hb hby at_134) rfl ?_
    show Steps p.tables e below (T10.setTop (mkF m 135 #[.val (.int p0), .val (.int p1), .val (.int p2), .val (.int p3), .val (.int (2 : Int32)), .val (.ref a), .val (.ref kd), .val (.int ((p3 >>> ((3 : Int32) &&& 31)) &&& (3 : Int32))), .val (.ref fo), .unset, .unset, .unset, .unset, .unset, .unset] [(.int (p3 >>> ((5 : Int32) &&& 31)))])) _
    refine XS.iconst X10.here hx rfl (hb hby at_135) ?_
    show Steps p.tables e below (T10.setTop (mkF m 136 #[.val (.int p0), .val (.int p1), .val (.int p2), .val (.int p3), .val (.int (2 : Int32)), .val (.ref a), .val (.ref kd), .val (.int ((p3 >>> ((3 : Int32) &&& 31)) &&& (3 : Int32))), .val (.ref fo), .unset, .unset, .unset, .unset, .unset, .unset] [(.int (1 : Int32)), (.int (p3 >>> ((5 : Int32) &&& 31)))])) _
    refine XS.iand X10.here hx rfl (hb hby at_136) rfl ?_
    refine st17 _ ?_
    show Steps p.tables e below (T17.setTop (mkF m 145 #[.val (.int p0), .val (.int p1), .val (.int p2), .val (.int p3), .val (.int (2 : Int32)), .val (.ref a), .val (.ref kd), .val (.int ((p3 >>> ((3 : Int32) &&& 31)) &&& (3 : Int32))), .val (.ref fo), .unset, .unset, .unset, .unset, .unset, .unset] [(.int car)])) _
    refine XS.istore X17.here hx rfl (hb hby at_145) rfl (l' := #[.val (.int p0), .val (.int p1), .val (.int p2), .val (.int p3), .val (.int (2 : Int32)), .val (.ref a), .val (.ref kd), .val (.int ((p3 >>> ((3 : Int32) &&& 31)) &&& (3 : Int32))), .val (.ref fo), .val (.int car), .unset, .unset, .unset, .unset, .unset]) rfl ?_
    show Steps p.tables e below (T17.setTop (mkF m 147 #[.val (.int p0), .val (.int p1), .val (.int p2), .val (.int p3), .val (.int (2 : Int32)), .val (.ref a), .val (.ref kd), .val (.int ((p3 >>> ((3 : Int32) &&& 31)) &&& (3 : Int32))), .val (.ref fo), .val (.int car), .unset, .unset, .unset, .unset, .unset] [])) _
    refine st18 _ ?_
    show Steps p.tables e below (T18.setTop (mkF m 150 #[.val (.int p0), .val (.int p1), .val (.int p2), .val (.int p3), .val (.int (2 : Int32)), .val (.ref a), .val (.ref kd), .val (.int ((p3 >>> ((3 : Int32) &&& 31)) &&& (3 : Int32))), .val (.ref fo), .val (.int car), .unset, .unset, .unset, .unset, .unset] [(.ref q)])) _
    refine XS.dup X18.here hx rfl (hb hby at_150) rfl rfl ?_
    show Steps p.tables e below (T18.setTop (mkF m 151 #[.val (.int p0), .val (.int p1), .val (.int p2), .val (.int p3), .val (.int (2 : Int32)), .val (.ref a), .val (.ref kd), .val (.int ((p3 >>> ((3 : Int32) &&& 31)) &&& (3 : Int32))), .val (.ref fo), .val (.int car), .unset, .unset, .unset, .unset, .unset] [(.ref q), (.ref q)])) _
    refine XS.iloadN X18.here hx rfl (hb hby at_151) rfl ?_
    show Steps p.tables e below (T18.setTop (mkF m 152 #[.val (.int p0), .val (.int p1), .val (.int p2), .val (.int p3), .val (.int (2 : Int32)), .val (.ref a), .val (.ref kd), .val (.int ((p3 >>> ((3 : Int32) &&& 31)) &&& (3 : Int32))), .val (.ref fo), .val (.int car), .unset, .unset, .unset, .unset, .unset] [(.int p3), (.ref q), (.ref q)])) _
    refine XS.aload X18.here hx rfl (hb hby at_152) rfl rfl ?_
    show Steps p.tables e below (T18.setTop (mkF m 154 #[.val (.int p0), .val (.int p1), .val (.int p2), .val (.int p3), .val (.int (2 : Int32)), .val (.ref a), .val (.ref kd), .val (.int ((p3 >>> ((3 : Int32) &&& 31)) &&& (3 : Int32))), .val (.ref fo), .val (.int car), .unset, .unset, .unset, .unset, .unset] [(.ref kd), (.int p3), (.ref q), (.ref q)])) _
    refine st19 _ ?_
    show Steps p.tables e below (T19.setTop (mkF m 156 #[.val (.int p0), .val (.int p1), .val (.int p2), .val (.int p3), .val (.int (2 : Int32)), .val (.ref a), .val (.ref kd), .val (.int ((p3 >>> ((3 : Int32) &&& 31)) &&& (3 : Int32))), .val (.ref fo), .val (.int car), .unset, .unset, .unset, .unset, .unset] [(.ref lit19), (.ref kd), (.int p3), (.ref q), (.ref q)])) _
    refine XS.aload X19.here hx rfl (hb hby at_156) rfl rfl ?_
    show Steps p.tables e below (T19.setTop (mkF m 158 #[.val (.int p0), .val (.int p1), .val (.int p2), .val (.int p3), .val (.int (2 : Int32)), .val (.ref a), .val (.ref kd), .val (.int ((p3 >>> ((3 : Int32) &&& 31)) &&& (3 : Int32))), .val (.ref fo), .val (.int car), .unset, .unset, .unset, .unset, .unset] [(.ref a), (.ref lit19), (.ref kd), (.int p3), (.ref q), (.ref q)])) _
    refine st20 _ ?_
    show Steps p.tables e below (T20.setTop (mkF m 160 #[.val (.int p0), .val (.int p1), .val (.int p2), .val (.int p3), .val (.int (2 : Int32)), .val (.ref a), .val (.ref kd), .val (.int ((p3 >>> ((3 : Int32) &&& 31)) &&& (3 : Int32))), .val (.ref fo), .val (.int car), .unset, .unset, .unset, .unset, .unset] [(.ref lit20), (.ref a), (.ref lit19), (.ref kd), (.int p3), (.ref q), (.ref q)])) _
    refine XS.iload X20.here hx rfl (hb hby at_160) rfl ?_
    show Steps p.tables e below (T20.setTop (mkF m 162 #[.val (.int p0), .val (.int p1), .val (.int p2), .val (.int p3), .val (.int (2 : Int32)), .val (.ref a), .val (.ref kd), .val (.int ((p3 >>> ((3 : Int32) &&& 31)) &&& (3 : Int32))), .val (.ref fo), .val (.int car), .unset, .unset, .unset, .unset, .unset] [(.int car), (.ref lit20), (.ref a), (.ref lit19), (.ref kd), (.int p3), (.ref q), (.ref q)])) _
    refine XS.aload X20.here hx rfl (hb hby at_162) rfl rfl ?_
    show Steps p.tables e below (T20.setTop (mkF m 164 #[.val (.int p0), .val (.int p1), .val (.int p2), .val (.int p3), .val (.int (2 : Int32)), .val (.ref a), .val (.ref kd), .val (.int ((p3 >>> ((3 : Int32) &&& 31)) &&& (3 : Int32))), .val (.ref fo), .val (.int car), .unset, .unset, .unset, .unset, .unset] [(.ref fo), (.int car), (.ref lit20), (.ref a), (.ref lit19), (.ref kd), (.int p3), (.ref q), (.ref q)])) _
    refine st21.trans ?_
    show Steps p.tables e below (T21.setTop (mkF m 167 #[.val (.int p0), .val (.int p1), .val (.int p2), .val (.int p3), .val (.int (2 : Int32)), .val (.ref a), .val (.ref kd), .val (.int ((p3 >>> ((3 : Int32) &&& 31)) &&& (3 : Int32))), .val (.ref fo), .val (.int car), .unset, .unset, .unset, .unset, .unset] [(.ref q)])) _
    refine XS.astore X21.here hx rfl (hb hby at_167) rfl rfl (l' := #[.val (.int p0), .val (.int p1), .val (.int p2), .val (.int p3), .val (.int (2 : Int32)), .val (.ref a), .val (.ref kd), .val (.int ((p3 >>> ((3 : Int32) &&& 31)) &&& (3 : Int32))), .val (.ref fo), .val (.int car), .val (.ref q), .unset, .unset, .unset, .unset]) rfl ?_
    show Steps p.tables e below (T21.setTop (mkF m 169 #[.val (.int p0), .val (.int p1), .val (.int p2), .val (.int p3), .val (.int (2 : Int32)), .val (.ref a), .val (.ref kd), .val (.int ((p3 >>> ((3 : Int32) &&& 31)) &&& (3 : Int32))), .val (.ref fo), .val (.int car), .val (.ref q), .unset, .unset, .unset, .unset] [])) _
    refine XS.iloadN X21.here hx rfl (hb hby at_169) rfl ?_
    show Steps p.tables e below (T21.setTop (mkF m 170 #[.val (.int p0), .val (.int p1), .val (.int p2), .val (.int p3), .val (.int (2 : Int32)), .val (.ref a), .val (.ref kd), .val (.int ((p3 >>> ((3 : Int32) &&& 31)) &&& (3 : Int32))), .val (.ref fo), .val (.int car), .val (.ref q), .unset, .unset, .unset, .unset] [(.int p3)])) _
    refine XS.bipush X21.here hx rfl (hb hby at_170) ?_
    show Steps p.tables e below (T21.setTop (mkF m 172 #[.val (.int p0), .val (.int p1), .val (.int p2), .val (.int p3), .val (.int (2 : Int32)), .val (.ref a), .val (.ref kd), .val (.int ((p3 >>> ((3 : Int32) &&& 31)) &&& (3 : Int32))), .val (.ref fo), .val (.int car), .val (.ref q), .unset, .unset, .unset, .unset] [(.int (6 : Int32)), (.int p3)])) _
    refine XS.ishr X21.here hx rfl (hb hby at_172) rfl ?_
    show Steps p.tables e below (T21.setTop (mkF m 173 #[.val (.int p0), .val (.int p1), .val (.int p2), .val (.int p3), .val (.int (2 : Int32)), .val (.ref a), .val (.ref kd), .val (.int ((p3 >>> ((3 : Int32) &&& 31)) &&& (3 : Int32))), .val (.ref fo), .val (.int car), .val (.ref q), .unset, .unset, .unset, .unset] [(.int (p3 >>> ((6 : Int32) &&& 31)))])) _
    refine XS.iconst X21.here hx rfl (hb hby at_173) ?_
    show Steps p.tables e below (T21.setTop (mkF m 174 #[.val (.int p0), .val (.int p1), .val (.int p2), .val (.int p3), .val (.int (2 : Int32)), .val (.ref a), .val (.ref kd), .val (.int ((p3 >>> ((3 : Int32) &&& 31)) &&& (3 : Int32))), .val (.ref fo), .val (.int car), .val (.ref q), .unset, .unset, .unset, .unset] [(.int (1 : Int32)), (.int (p3 >>> ((6 : Int32) &&& 31)))])) _
    refine XS.iand X21.here hx rfl (hb hby at_174) rfl ?_
    refine st22 _ ?_
    show Steps p.tables e below (T22.setTop (mkF m 183 #[.val (.int p0), .val (.int p1), .val (.int p2), .val (.int p3), .val (.int (2 : Int32)), .val (.ref a), .val (.ref kd), .val (.int ((p3 >>> ((3 : Int32) &&& 31)) &&& (3 : Int32))), .val (.ref fo), .val (.int car), .val (.ref q), .unset, .unset, .unset, .unset] [(.int art)])) _
    refine XS.istore X22.here hx rfl (hb hby at_183) rfl (l' := #[.val (.int p0), .val (.int p1), .val (.int p2), .val (.int p3), .val (.int (2 : Int32)), .val (.ref a), .val (.ref kd), .val (.int ((p3 >>> ((3 : Int32) &&& 31)) &&& (3 : Int32))), .val (.ref fo), .val (.int car), .val (.ref q), .val (.int art), .unset, .unset, .unset]) rfl ?_
    show Steps p.tables e below (T22.setTop (mkF m 185 #[.val (.int p0), .val (.int p1), .val (.int p2), .val (.int p3), .val (.int (2 : Int32)), .val (.ref a), .val (.ref kd), .val (.int ((p3 >>> ((3 : Int32) &&& 31)) &&& (3 : Int32))), .val (.ref fo), .val (.int car), .val (.ref q), .val (.int art), .unset, .unset, .unset] [])) _
    refine st23 _ ?_
    show Steps p.tables e below (T23.setTop (mkF m 188 #[.val (.int p0), .val (.int p1), .val (.int p2), .val (.int p3), .val (.int (2 : Int32)), .val (.ref a), .val (.ref kd), .val (.int ((p3 >>> ((3 : Int32) &&& 31)) &&& (3 : Int32))), .val (.ref fo), .val (.int car), .val (.ref q), .val (.int art), .unset, .unset, .unset] [(.ref a2)])) _
    refine XS.dup X23.here hx rfl (hb hby at_188) rfl rfl ?_
    show Steps p.tables e below (T23.setTop (mkF m 189 #[.val (.int p0), .val (.int p1), .val (.int p2), .val (.int p3), .val (.int (2 : Int32)), .val (.ref a), .val (.ref kd), .val (.int ((p3 >>> ((3 : Int32) &&& 31)) &&& (3 : Int32))), .val (.ref fo), .val (.int car), .val (.ref q), .val (.int art), .unset, .unset, .unset] [(.ref a2), (.ref a2)])) _
    refine st24.trans ?_
    show Steps p.tables e below (T24.setTop (mkF m 192 #[.val (.int p0), .val (.int p1), .val (.int p2), .val (.int p3), .val (.int (2 : Int32)), .val (.ref a), .val (.ref kd), .val (.int ((p3 >>> ((3 : Int32) &&& 31)) &&& (3 : Int32))), .val (.ref fo), .val (.int car), .val (.ref q), .val (.int art), .unset, .unset, .unset] [(.ref a2)])) _
    refine XS.astore X24.here hx rfl (hb hby at_192) rfl rfl (l' := #[.val (.int p0), .val (.int p1), .val (.int p2), .val (.int p3), .val (.int (2 : Int32)), .val (.ref a), .val (.ref kd), .val (.int ((p3 >>> ((3 : Int32) &&& 31)) &&& (3 : Int32))), .val (.ref fo), .val (.int car), .val (.ref q), .val (.int art), .val (.ref a2), .unset, .unset]) rfl ?_
    show Steps p.tables e below (T24.setTop (mkF m 194 #[.val (.int p0), .val (.int p1), .val (.int p2), .val (.int p3), .val (.int (2 : Int32)), .val (.ref a), .val (.ref kd), .val (.int ((p3 >>> ((3 : Int32) &&& 31)) &&& (3 : Int32))), .val (.ref fo), .val (.int car), .val (.ref q), .val (.int art), .val (.ref a2), .unset, .unset] [])) _
    refine XS.aload X24.here hx rfl (hb hby at_194) rfl rfl ?_
    show Steps p.tables e below (T24.setTop (mkF m 196 #[.val (.int p0), .val (.int p1), .val (.int p2), .val (.int p3), .val (.int (2 : Int32)), .val (.ref a), .val (.ref kd), .val (.int ((p3 >>> ((3 : Int32) &&& 31)) &&& (3 : Int32))), .val (.ref fo), .val (.int car), .val (.ref q), .val (.int art), .val (.ref a2), .unset, .unset] [(.ref a2)])) _
    refine XS.iload X24.here hx rfl (hb hby at_196) rfl ?_
    show Steps p.tables e below (T24.setTop (mkF m 198 #[.val (.int p0), .val (.int p1), .val (.int p2), .val (.int p3), .val (.int (2 : Int32)), .val (.ref a), .val (.ref kd), .val (.int ((p3 >>> ((3 : Int32) &&& 31)) &&& (3 : Int32))), .val (.ref fo), .val (.int car), .val (.ref q), .val (.int art), .val (.ref a2), .unset, .unset] [(.int art), (.ref a2)])) _
    refine st25 _ ?_
    show Steps p.tables e below (T25.setTop (mkF m 201 #[.val (.int p0), .val (.int p1), .val (.int p2), .val (.int p3), .val (.int (2 : Int32)), .val (.ref a), .val (.ref kd), .val (.int ((p3 >>> ((3 : Int32) &&& 31)) &&& (3 : Int32))), .val (.ref fo), .val (.int car), .val (.ref q), .val (.int art), .val (.ref a2), .unset, .unset] [(.ref x3), (.ref a2)])) _
    refine st26.trans ?_
    show Steps p.tables e below (T26.setTop (mkF m 206 #[.val (.int p0), .val (.int p1), .val (.int p2), .val (.int p3), .val (.int (2 : Int32)), .val (.ref a), .val (.ref kd), .val (.int ((p3 >>> ((3 : Int32) &&& 31)) &&& (3 : Int32))), .val (.ref fo), .val (.int car), .val (.ref q), .val (.int art), .val (.ref a2), .unset, .unset] [(.int (1 : Int32))])) _
    refine XS.pop X26.here hx rfl (hb hby at_206) rfl rfl ?_
    show Steps p.tables e below (T26.setTop (mkF m 207 #[.val (.int p0), .val (.int p1), .val (.int p2), .val (.int p3), .val (.int (2 : Int32)), .val (.ref a), .val (.ref kd), .val (.int ((p3 >>> ((3 : Int32) &&& 31)) &&& (3 : Int32))), .val (.ref fo), .val (.int car), .val (.ref q), .val (.int art), .val (.ref a2), .unset, .unset] [])) _
    refine st27 _ ?_
    show Steps p.tables e below (T27.setTop (mkF m 210 #[.val (.int p0), .val (.int p1), .val (.int p2), .val (.int p3), .val (.int (2 : Int32)), .val (.ref a), .val (.ref kd), .val (.int ((p3 >>> ((3 : Int32) &&& 31)) &&& (3 : Int32))), .val (.ref fo), .val (.int car), .val (.ref q), .val (.int art), .val (.ref a2), .unset, .unset] [(.ref q2)])) _
    refine XS.dup X27.here hx rfl (hb hby at_210) rfl rfl ?_
    show Steps p.tables e below (T27.setTop (mkF m 211 #[.val (.int p0), .val (.int p1), .val (.int p2), .val (.int p3), .val (.int (2 : Int32)), .val (.ref a), .val (.ref kd), .val (.int ((p3 >>> ((3 : Int32) &&& 31)) &&& (3 : Int32))), .val (.ref fo), .val (.int car), .val (.ref q), .val (.int art), .val (.ref a2), .unset, .unset] [(.ref q2), (.ref q2)])) _
    refine XS.iconst X27.here hx rfl (hb hby at_211) ?_
    show Steps p.tables e below (T27.setTop (mkF m 212 #[.val (.int p0), .val (.int p1), .val (.int p2), .val (.int p3), .val (.int (2 : Int32)), .val (.ref a), .val (.ref kd), .val (.int ((p3 >>> ((3 : Int32) &&& 31)) &&& (3 : Int32))), .val (.ref fo), .val (.int car), .val (.ref q), .val (.int art), .val (.ref a2), .unset, .unset] [(.int (1 : Int32)), (.ref q2), (.ref q2)])) _
    refine st28 _ ?_
    show Steps p.tables e below (T28.setTop (mkF m 215 #[.val (.int p0), .val (.int p1), .val (.int p2), .val (.int p3), .val (.int (2 : Int32)), .val (.ref a), .val (.ref kd), .val (.int ((p3 >>> ((3 : Int32) &&& 31)) &&& (3 : Int32))), .val (.ref fo), .val (.int car), .val (.ref q), .val (.int art), .val (.ref a2), .unset, .unset] [(.ref kA), (.int (1 : Int32)), (.ref q2), (.ref q2)])) _
    refine st29 _ ?_
    show Steps p.tables e below (T29.setTop (mkF m 217 #[.val (.int p0), .val (.int p1), .val (.int p2), .val (.int p3), .val (.int (2 : Int32)), .val (.ref a), .val (.ref kd), .val (.int ((p3 >>> ((3 : Int32) &&& 31)) &&& (3 : Int32))), .val (.ref fo), .val (.int car), .val (.ref q), .val (.int art), .val (.ref a2), .unset, .unset] [(.ref lit29), (.ref kA), (.int (1 : Int32)), (.ref q2), (.ref q2)])) _
    refine XS.aload X29.here hx rfl (hb hby at_217) rfl rfl ?_
    show Steps p.tables e below (T29.setTop (mkF m 219 #[.val (.int p0), .val (.int p1), .val (.int p2), .val (.int p3), .val (.int (2 : Int32)), .val (.ref a), .val (.ref kd), .val (.int ((p3 >>> ((3 : Int32) &&& 31)) &&& (3 : Int32))), .val (.ref fo), .val (.int car), .val (.ref q), .val (.int art), .val (.ref a2), .unset, .unset] [(.ref a2), (.ref lit29), (.ref kA), (.int (1 : Int32)), (.ref q2), (.ref q2)])) _
    refine st30 _ ?_
    show Steps p.tables e below (T30.setTop (mkF m 221 #[.val (.int p0), .val (.int p1), .val (.int p2), .val (.int p3), .val (.int (2 : Int32)), .val (.ref a), .val (.ref kd), .val (.int ((p3 >>> ((3 : Int32) &&& 31)) &&& (3 : Int32))), .val (.ref fo), .val (.int car), .val (.ref q), .val (.int art), .val (.ref a2), .unset, .unset] [(.ref lit30), (.ref a2), (.ref lit29), (.ref kA), (.int (1 : Int32)), (.ref q2), (.ref q2)])) _
    refine XS.iconst X30.here hx rfl (hb hby at_221) ?_
    show Steps p.tables e below (T30.setTop (mkF m 222 #[.val (.int p0), .val (.int p1), .val (.int p2), .val (.int p3), .val (.int (2 : Int32)), .val (.ref a), .val (.ref kd), .val (.int ((p3 >>> ((3 : Int32) &&& 31)) &&& (3 : Int32))), .val (.ref fo), .val (.int car), .val (.ref q), .val (.int art), .val (.ref a2), .unset, .unset] [(.int (0 : Int32)), (.ref lit30), (.ref a2), (.ref lit29), (.ref kA), (.int (1 : Int32)), (.ref q2), (.ref q2)])) _
    refine st31 _ ?_
    show Steps p.tables e below (T31.setTop (mkF m 225 #[.val (.int p0), .val (.int p1), .val (.int p2), .val (.int p3), .val (.int (2 : Int32)), .val (.ref a), .val (.ref kd), .val (.int ((p3 >>> ((3 : Int32) &&& 31)) &&& (3 : Int32))), .val (.ref fo), .val (.int car), .val (.ref q), .val (.int art), .val (.ref a2), .unset, .unset] [(.ref f0), (.int (0 : Int32)), (.ref lit30), (.ref a2), (.ref lit29), (.ref kA), (.int (1 : Int32)), (.ref q2), (.ref q2)])) _
    refine st32.trans ?_
    show Steps p.tables e below (T32.setTop (mkF m 228 #[.val (.int p0), .val (.int p1), .val (.int p2), .val (.int p3), .val (.int (2 : Int32)), .val (.ref a), .val (.ref kd), .val (.int ((p3 >>> ((3 : Int32) &&& 31)) &&& (3 : Int32))), .val (.ref fo), .val (.int car), .val (.ref q), .val (.int art), .val (.ref a2), .unset, .unset] [(.ref q2)])) _
    refine XS.astore X32.here hx rfl (hb hby at_228) rfl rfl (l' := #[.val (.int p0), .val (.int p1), .val (.int p2), .val (.int p3), .val (.int (2 : Int32)), .val (.ref a), .val (.ref kd), .val (.int ((p3 >>> ((3 : Int32) &&& 31)) &&& (3 : Int32))), .val (.ref fo), .val (.int car), .val (.ref q), .val (.int art), .val (.ref a2), .val (.ref q2), .unset]) rfl ?_
    show Steps p.tables e below (T32.setTop (mkF m 230 #[.val (.int p0), .val (.int p1), .val (.int p2), .val (.int p3), .val (.int (2 : Int32)), .val (.ref a), .val (.ref kd), .val (.int ((p3 >>> ((3 : Int32) &&& 31)) &&& (3 : Int32))), .val (.ref fo), .val (.int car), .val (.ref q), .val (.int art), .val (.ref a2), .val (.ref q2), .unset] [])) _
    refine XS.aload X32.here hx rfl (hb hby at_230) rfl rfl ?_
    show Steps p.tables e below (T32.setTop (mkF m 232 #[.val (.int p0), .val (.int p1), .val (.int p2), .val (.int p3), .val (.int (2 : Int32)), .val (.ref a), .val (.ref kd), .val (.int ((p3 >>> ((3 : Int32) &&& 31)) &&& (3 : Int32))), .val (.ref fo), .val (.int car), .val (.ref q), .val (.int art), .val (.ref a2), .val (.ref q2), .unset] [(.ref kd)])) _
    refine st33 _ ?_
    refine st34 _ ?_
    show Steps p.tables e below (T34.setTop (mkF m 249 #[.val (.int p0), .val (.int p1), .val (.int p2), .val (.int p3), .val (.int (2 : Int32)), .val (.ref a), .val (.ref kd), .val (.int ((p3 >>> ((3 : Int32) &&& 31)) &&& (3 : Int32))), .val (.ref fo), .val (.int car), .val (.ref q), .val (.int art), .val (.ref a2), .val (.ref q2), .unset] [(.int eh)])) _
    refine XS.istore X34.here hx rfl (hb hby at_249) rfl (l' := #[.val (.int p0), .val (.int p1), .val (.int p2), .val (.int p3), .val (.int (2 : Int32)), .val (.ref a), .val (.ref kd), .val (.int ((p3 >>> ((3 : Int32) &&& 31)) &&& (3 : Int32))), .val (.ref fo), .val (.int car), .val (.ref q), .val (.int art), .val (.ref a2), .val (.ref q2), .val (.int eh)]) rfl ?_
    show Steps p.tables e below (T34.setTop (mkF m 251 #[.val (.int p0), .val (.int p1), .val (.int p2), .val (.int p3), .val (.int (2 : Int32)), .val (.ref a), .val (.ref kd), .val (.int ((p3 >>> ((3 : Int32) &&& 31)) &&& (3 : Int32))), .val (.ref fo), .val (.int car), .val (.ref q), .val (.int art), .val (.ref a2), .val (.ref q2), .val (.int eh)] [])) _
    refine XS.aload X34.here hx rfl (hb hby at_251) rfl rfl ?_
    show Steps p.tables e below (T34.setTop (mkF m 253 #[.val (.int p0), .val (.int p1), .val (.int p2), .val (.int p3), .val (.int (2 : Int32)), .val (.ref a), .val (.ref kd), .val (.int ((p3 >>> ((3 : Int32) &&& 31)) &&& (3 : Int32))), .val (.ref fo), .val (.int car), .val (.ref q), .val (.int art), .val (.ref a2), .val (.ref q2), .val (.int eh)] [(.ref q)])) _
    refine st36.trans ?_
    show Steps p.tables e below (T36.setTop (mkF m 256 #[.val (.int p0), .val (.int p1), .val (.int p2), .val (.int p3), .val (.int (2 : Int32)), .val (.ref a), .val (.ref kd), .val (.int ((p3 >>> ((3 : Int32) &&& 31)) &&& (3 : Int32))), .val (.ref fo), .val (.int car), .val (.ref q), .val (.int art), .val (.ref a2), .val (.ref q2), .val (.int eh)] [(.int p0)])) _
    refine XS.iloadN X36.here hx rfl (hb hby at_256) rfl ?_
    show Steps p.tables e below (T36.setTop (mkF m 257 #[.val (.int p0), .val (.int p1), .val (.int p2), .val (.int p3), .val (.int (2 : Int32)), .val (.ref a), .val (.ref kd), .val (.int ((p3 >>> ((3 : Int32) &&& 31)) &&& (3 : Int32))), .val (.ref fo), .val (.int car), .val (.ref q), .val (.int art), .val (.ref a2), .val (.ref q2), .val (.int eh)] [(.int p0), (.int p0)])) _
    refine XS.icmpNo X36.here hx rfl (hb hby at_257) rfl (teq (rfl : p0 = p0)).2 ?_
    show Steps p.tables e below (T36.setTop (mkF m 260 #[.val (.int p0), .val (.int p1), .val (.int p2), .val (.int p3), .val (.int (2 : Int32)), .val (.ref a), .val (.ref kd), .val (.int ((p3 >>> ((3 : Int32) &&& 31)) &&& (3 : Int32))), .val (.ref fo), .val (.int car), .val (.ref q), .val (.int art), .val (.ref a2), .val (.ref q2), .val (.int eh)] [])) _
    refine XS.aload X36.here hx rfl (hb hby at_260) rfl rfl ?_
    show Steps p.tables e below (T36.setTop (mkF m 262 #[.val (.int p0), .val (.int p1), .val (.int p2), .val (.int p3), .val (.int (2 : Int32)), .val (.ref a), .val (.ref kd), .val (.int ((p3 >>> ((3 : Int32) &&& 31)) &&& (3 : Int32))), .val (.ref fo), .val (.int car), .val (.ref q), .val (.int art), .val (.ref a2), .val (.ref q2), .val (.int eh)] [(.ref q2)])) _
    refine st37.trans ?_
    show Steps p.tables e below (T37.setTop (mkF m 265 #[.val (.int p0), .val (.int p1), .val (.int p2), .val (.int p3), .val (.int (2 : Int32)), .val (.ref a), .val (.ref kd), .val (.int ((p3 >>> ((3 : Int32) &&& 31)) &&& (3 : Int32))), .val (.ref fo), .val (.int car), .val (.ref q), .val (.int art), .val (.ref a2), .val (.ref q2), .val (.int eh)] [(.int art)])) _
    refine XS.iload X37.here hx rfl (hb hby at_265) rfl ?_
    show Steps p.tables e below (T37.setTop (mkF m 267 #[.val (.int p0), .val (.int p1), .val (.int p2), .val (.int p3), .val (.int (2 : Int32)), .val (.ref a), .val (.ref kd), .val (.int ((p3 >>> ((3 : Int32) &&& 31)) &&& (3 : Int32))), .val (.ref fo), .val (.int car), .val (.ref q), .val (.int art), .val (.ref a2), .val (.ref q2), .val (.int eh)] [(.int art), (.int art)])) _
    refine XS.icmpNo X37.here hx rfl (hb hby at_267) rfl (teq (rfl : art = art)).2 ?_
    show Steps p.tables e below (T37.setTop (mkF m 270 #[.val (.int p0), .val (.int p1), .val (.int p2), .val (.int p3), .val (.int (2 : Int32)), .val (.ref a), .val (.ref kd), .val (.int ((p3 >>> ((3 : Int32) &&& 31)) &&& (3 : Int32))), .val (.ref fo), .val (.int car), .val (.ref q), .val (.int art), .val (.ref a2), .val (.ref q2), .val (.int eh)] [])) _
    refine XS.aload X37.here hx rfl (hb hby at_270) rfl rfl ?_
    show Steps p.tables e below (T37.setTop (mkF m 272 #[.val (.int p0), .val (.int p1), .val (.int p2), .val (.int p3), .val (.int (2 : Int32)), .val (.ref a), .val (.ref kd), .val (.int ((p3 >>> ((3 : Int32) &&& 31)) &&& (3 : Int32))), .val (.ref fo), .val (.int car), .val (.ref q), .val (.int art), .val (.ref a2), .val (.ref q2), .val (.int eh)] [(.ref q2)])) _
    refine XS.aload X37.here hx rfl (hb hby at_272) rfl rfl ?_
    show Steps p.tables e below (T37.setTop (mkF m 274 #[.val (.int p0), .val (.int p1), .val (.int p2), .val (.int p3), .val (.int (2 : Int32)), .val (.ref a), .val (.ref kd), .val (.int ((p3 >>> ((3 : Int32) &&& 31)) &&& (3 : Int32))), .val (.ref fo), .val (.int car), .val (.ref q), .val (.int art), .val (.ref a2), .val (.ref q2), .val (.int eh)] [(.ref q), (.ref q2)])) _
    refine st38.trans ?_
    show Steps p.tables e below (T38.setTop (mkF m 277 #[.val (.int p0), .val (.int p1), .val (.int p2), .val (.int p3), .val (.int (2 : Int32)), .val (.ref a), .val (.ref kd), .val (.int ((p3 >>> ((3 : Int32) &&& 31)) &&& (3 : Int32))), .val (.ref fo), .val (.int car), .val (.ref q), .val (.int art), .val (.ref a2), .val (.ref q2), .val (.int eh)] [(.int rb1)])) _
    refine XS.iload X38.here hx rfl (hb hby at_277) rfl ?_
    show Steps p.tables e below (T38.setTop (mkF m 279 #[.val (.int p0), .val (.int p1), .val (.int p2), .val (.int p3), .val (.int (2 : Int32)), .val (.ref a), .val (.ref kd), .val (.int ((p3 >>> ((3 : Int32) &&& 31)) &&& (3 : Int32))), .val (.ref fo), .val (.int car), .val (.ref q), .val (.int art), .val (.ref a2), .val (.ref q2), .val (.int eh)] [(.int eh), (.int rb1)])) _
    refine XS.icmpNo X38.here hx rfl (hb hby at_279) rfl (teq (own_fin rel_rb1 hv34)).2 ?_
    show Steps p.tables e below (T38.setTop (mkF m 282 #[.val (.int p0), .val (.int p1), .val (.int p2), .val (.int p3), .val (.int (2 : Int32)), .val (.ref a), .val (.ref kd), .val (.int ((p3 >>> ((3 : Int32) &&& 31)) &&& (3 : Int32))), .val (.ref fo), .val (.int car), .val (.ref q), .val (.int art), .val (.ref a2), .val (.ref q2), .val (.int eh)] [])) _
    refine XS.iconst X38.here hx rfl (hb hby at_282) ?_
    show Steps p.tables e below (T38.setTop (mkF m 283 #[.val (.int p0), .val (.int p1), .val (.int p2), .val (.int p3), .val (.int (2 : Int32)), .val (.ref a), .val (.ref kd), .val (.int ((p3 >>> ((3 : Int32) &&& 31)) &&& (3 : Int32))), .val (.ref fo), .val (.int car), .val (.ref q), .val (.int art), .val (.ref a2), .val (.ref q2), .val (.int eh)] [(.int (1 : Int32))])) _
    refine XS.goto X38.here hx rfl (pc0 := 283) (pc' := 287) rfl (hb hby at_283) (by decide) (by decide) ?_
    show Steps p.tables e below (T38.setTop (mkF m 287 #[.val (.int p0), .val (.int p1), .val (.int p2), .val (.int p3), .val (.int (2 : Int32)), .val (.ref a), .val (.ref kd), .val (.int ((p3 >>> ((3 : Int32) &&& 31)) &&& (3 : Int32))), .val (.ref fo), .val (.int car), .val (.ref q), .val (.int art), .val (.ref a2), .val (.ref q2), .val (.int eh)] [(.int (1 : Int32))])) _
    exact retN X38 hx (t := .boolean) Bd.returns (by simp) (hb hby at_287) hr
  · show own_QL n0 _ T38.heap _
    rw [e38]
    exact ⟨rfl, N32⟩
set_option maxRecDepth 65536 in
set_option maxHeartbeats 40000000 in
theorem own_law2 (l : Launch) (Z : State) (a0 : Array Value) (hw : ∀ d ∈ tables_1, d.before a0 Z = true) (ws : List Jvm.Cond) (D : Addr) (cD : Cell) (ich : Addr) (icc : Cell) (kA : Addr) (kS : Addr) (f0 : Addr) (f1 : Addr) (f2 : Addr) (f3 : Addr) (p0 p1 p2 p3 : Int32) (h0 : Heap) (n0 : Nat) (O0 : Old Z n0 h0) (K : own_W Z D cD ich icc kA kS f0 f1 f2 f3) (hc : ((p3 &&& (3 : Int32)) % (3 : Int32)) = (2 : Int32)) :
    MetFree l x (head1 (Jvm.Cond.code x code maxLocals ret :: ws) room_1) (fun aa_ U_ => aa_ = #[(.int p0), (.int p1), (.int p2), (.int p3)] ∧ Z.Warmed39 U_.vm ∧ U_.heap = h0) (fun _ _ _ _ _ => True) (fun _ U_ oo_ UU_ => ∃ vv_ LL_, oo_ = .returned vv_ ∧ own_QL n0 vv_ UU_.heap LL_ ∧ ReturnedEndW U_ oo_ UU_ LL_ room_1.cells room_1.slots) := by
  have KK := K
  obtain ⟨SD, AD0, zD, SH, SC, AC0, zC, vC, SA, SS, neAS, S0, S1, S2, S3⟩ := KK
  have wS := own_wS hw
  refine MetFree.of_bodySF (plainFor_of_name own_pn9) hisR ?_
  intro p e s m args below meth c s₁ Bd hml0 hP hK
  obtain ⟨rfl, hZ, hh⟩ := hP
  have hx := Bd.exec
  have hby := Bd.bytes
  have hml : c.maxLocals = 15 := hml0
  have hown : s.vm.findClass "com/example/witnesseth/witnesseth/HeadingLineArticlePinLaw" = some m.cls := findClass_of_methodNamed Bd.named
  have hnm := (name_of_methodNamed Bd.named Bd.method).1
  have X0 : Stand p l e room_1 s m #[(.int p0), (.int p1), (.int p2), (.int p3)] below meth c s₁ [] 0 0 := Stand.of_body Bd
  have e0 : s₁.heap = h0 := by rw [← hh, Bd.state]; rfl
  have N0 := Fr.nil n0
  have pre0 : ∀ tt_, Steps p.tables e below (s₁.setTop (mkF m 0 #[.val (.int p0), .val (.int p1), .val (.int p2), .val (.int p3), .unset, .unset, .unset, .unset, .unset, .unset, .unset, .unset, .unset, .unset, .unset] [])) tt_ → Steps p.tables e below (s₁.setTop (entryFrame m #[(.int p0), (.int p1), (.int p2), (.int p3)] maxLocals)) tt_ := fun tt_ kk_ => castTop (own_ef0 m p0 p1 p2 p3) kk_
  obtain ⟨T1, h1, X1, e1, E1, A1, D1, -, st1⟩ := newO X0 hx hZ hown (hw _ (List.mem_of_getElem? (i := 0) rfl)) (hw _ (List.mem_of_getElem? (i := 1) rfl)) (hw _ (List.mem_of_getElem? (i := 2) rfl)) e0 (g := (mkF m 9 #[.val (.int p0), .val (.int p1), .val (.int p2), .val (.int p3), .val (.int (3 : Int32)), .unset, .unset, .unset, .unset, .unset, .unset, .unset, .unset, .unset, .unset] [])) rfl (hb hby at_9) (by decide) (by decide)
  obtain ⟨a, g1⟩ : ∃ z, z = h0.size := ⟨_, rfl⟩
  have g_a : n0 ≤ a := Nat.le_trans (Nat.le_trans (Nat.le_of_eq O0.1.symm) O0.2.1) (Nat.le_of_eq g1.symm)
  rw [← g1] at A1 D1 st1
  have O1 := O0.ext E1
  have F1_modCount : Fld Z h1 a "java/util/AbstractList" "modCount" "I" (.int (0 : Int32)) := D1 (Or.inl (hw _ (List.mem_of_getElem? (i := 22) rfl))) (ty := .int) (by decide)
  have F1_elementData : Fld Z h1 a "java/util/ArrayList" "elementData" "[Ljava/lang/Object;" .null := D1 (Or.inl (hw _ (List.mem_of_getElem? (i := 25) rfl))) (ty := (.array (.object "java/lang/Object"))) (by decide)
  have F1_size : Fld Z h1 a "java/util/ArrayList" "size" "I" (.int (0 : Int32)) := D1 (Or.inl (hw _ (List.mem_of_getElem? (i := 45) rfl))) (ty := .int) (by decide)
  obtain ⟨_, _, ⟨T2, L2, k2, n2⟩, -, X2, ⟨Lc2, hQ2, l2, y2, z2⟩, st2⟩ := X1.specialBack hx (y := (⟨"java/util/ArrayList", "<init>", "()V"⟩ : MethodName)) rfl hown (mvT hZ (hw _ (List.mem_of_getElem? (i := 3) rfl))) (mvT hZ (hw _ (List.mem_of_getElem? (i := 4) rfl))) (mvT hZ (hw _ (List.mem_of_getElem? (i := 5) rfl))) (by decide) (backOf (W := 1) (own_ali l Z a0 hw [] a D cD ich icc kA kS f0 f1 f2 f3 h1 n0 O1 K A1 F1_modCount F1_elementData F1_size g_a) hZ (hw _ (List.mem_of_getElem? (i := 5) rfl)) (hw _ (List.mem_of_getElem? (i := 2) rfl)) (by decide) (by decide)) (g := (mkF m 13 #[.val (.int p0), .val (.int p1), .val (.int p2), .val (.int p3), .val (.int (3 : Int32)), .unset, .unset, .unset, .unset, .unset, .unset, .unset, .unset, .unset, .unset] [(.ref a), (.ref a)])) rfl (by rw [hml]; rfl) (Steps.refl _) (a := a) (argsL := []) (rest := [(.ref a)]) (lenOf own_pd0 rfl) rfl (by show 2 * 0 + _ ≤ _; exact Nat.le_of_eq rfl) (hb hby at_13) (fun _ _ => ⟨rfl, e1, (by decide : 1 + 0 ≤ _), (by decide : 3 + 0 ≤ _)⟩)
  dsimp only [Pt.U, Pt.locs, Pt.cells, Pt.slots] at X2 l2 y2 z2 st2 hQ2
  subst l2 y2 z2
  obtain ⟨rfl, N2q, O2, K2, p2_E_a, p2_F_a_modCount, p2_F_a_elementData, p2_F_a_size⟩ := hQ2
  have N2 := Fr.app N0 N2q
  obtain ⟨_, _, ⟨T3, L3, k3, n3⟩, -, X3, ⟨Lc3, hQ3, l3, y3, z3⟩, st3⟩ := Jvm.LawKit.callS X2 hx (y := (⟨"java/lang/Integer", "valueOf", "(I)Ljava/lang/Integer;"⟩ : MethodName)) hown (mvT hZ (hw _ (List.mem_of_getElem? (i := 26) rfl))) (mvT hZ (hw _ (List.mem_of_getElem? (i := 27) rfl))) (mvT hZ (hw _ (List.mem_of_getElem? (i := 28) rfl))) (mvT hZ (hw _ (List.mem_of_getElem? (i := 29) rfl))) (by decide) (backOf (W := 1) (own_val l Z a0 hw [] p0 D cD ich icc kA kS f0 f1 f2 f3 T2.heap n0 O2 K ) hZ (hw _ (List.mem_of_getElem? (i := 29) rfl)) (hw _ (List.mem_of_getElem? (i := 28) rfl)) (by decide) (by decide)) (g := (mkF m 21 #[.val (.int p0), .val (.int p1), .val (.int p2), .val (.int p3), .val (.int (3 : Int32)), .val (.ref a), .unset, .unset, .unset, .unset, .unset, .unset, .unset, .unset, .unset] [(.int p0), (.ref a)])) rfl (by rw [hml]; rfl) (argsL := [(.int p0)]) (rest := [(.ref a)]) (lenOf own_pd9 rfl) rfl (by show 2 * 0 + _ ≤ _; exact Nat.le_of_eq rfl) (hb hby at_21) (fun _ _ => ⟨rfl, rfl, (by decide : 1 + 1 ≤ _), (by decide : 3 + 1 ≤ _)⟩)
  dsimp only [Pt.U, Pt.locs, Pt.cells, Pt.slots] at X3 l3 y3 z3 st3 hQ3
  subst l3 y3 z3
  obtain ⟨x1, rfl, N3q, O3, K3, p3_E_r, p3_F_r_value⟩ := hQ3
  have N3 := Fr.app N2 N3q
  have f3_E_a := p2_E_a.keep K3
  have f3_F_a_modCount := p2_F_a_modCount.keep K3 nin0
  have f3_F_a_elementData := p2_F_a_elementData.keep K3 nin0
  have f3_F_a_size := p2_F_a_size.keep K3 nin0
  have ne_x1_a : x1 ≠ a := ne_exa p3_E_r f3_E_a (by decide)
  obtain ⟨cq4, kq4, q4a, q4b, q4c⟩ := isOf hZ rfl f3_E_a
  obtain ⟨_, _, ⟨T4, L4, k4, n4⟩, -, X4, ⟨Lc4, hQ4, l4, y4, z4⟩, st4⟩ := X3.interfaceBack hx (xi := (⟨"java/util/List", "add", "(Ljava/lang/Object;)Z"⟩ : MethodName)) (y := (⟨"java/util/ArrayList", "add", "(Ljava/lang/Object;)Z"⟩ : MethodName)) hown (mvT hZ (hw _ (List.mem_of_getElem? (i := 33) rfl))) (mvT hZ (hw _ (List.mem_of_getElem? (i := 34) rfl))) (mvT hZ (hw _ (List.mem_of_getElem? (i := 35) rfl))) (mvT hZ (hw _ (List.mem_of_getElem? (i := 36) rfl))) (mvT hZ (hw _ (List.mem_of_getElem? (i := 37) rfl))) (mvT hZ (hw _ (List.mem_of_getElem? (i := 38) rfl))) (mvT hZ (hw _ (List.mem_of_getElem? (i := 39) rfl))) (mvT hZ (hw _ (List.mem_of_getElem? (i := 40) rfl))) (by decide) (backOf (W := 0) (own_add l Z a0 hw [] a x1 D cD ich icc kA kS f0 f1 f2 f3 T3.heap n0 O3 K f3_E_a f3_F_a_modCount f3_F_a_elementData f3_F_a_size g_a (Ins.of_exa p3_E_r (hw _ (List.mem_of_getElem? (i := 67) rfl)))) hZ (hw _ (List.mem_of_getElem? (i := 41) rfl)) (hw _ (List.mem_of_getElem? (i := 2) rfl)) (by decide) (by decide)) q4a q4b q4c (g := (mkF m 24 #[.val (.int p0), .val (.int p1), .val (.int p2), .val (.int p3), .val (.int (3 : Int32)), .val (.ref a), .unset, .unset, .unset, .unset, .unset, .unset, .unset, .unset, .unset] [(.ref x1), (.ref a)])) rfl (by rw [hml]; rfl) (Steps.refl _) (argsL := [(.ref x1)]) (rest := []) (lenOf own_pd10 rfl) rfl (by show 2 * 0 + _ ≤ _; exact Nat.le_of_eq rfl) (hb hby at_24) (fun _ _ => ⟨rfl, rfl, (by decide : 2 + 1 ≤ _), (by decide : 4 + 10 ≤ _)⟩)
  dsimp only [Pt.U, Pt.locs, Pt.cells, Pt.slots] at X4 l4 y4 z4 st4 hQ4
  subst l4 y4 z4
  obtain ⟨ea, rfl, N4q, O4, K4, p4_L_a, p4_fresh_ea⟩ := hQ4
  have N4 := Fr.app N3 N4q
  have ne_a_ea : a ≠ ea := Nat.ne_of_lt (Nat.lt_of_lt_of_le f3_E_a.lt p4_fresh_ea)
  have ne_x1_ea : x1 ≠ ea := Nat.ne_of_lt (Nat.lt_of_lt_of_le p3_E_r.lt p4_fresh_ea)
  have g_ea : n0 ≤ ea := Nat.le_trans (Nat.le_trans (Nat.le_of_eq O3.1.symm) O3.2.1) p4_fresh_ea
  have f4_E_x1 := p3_E_r.keep K4
  have f4_F_x1_value := p3_F_r_value.keep K4 (ninS ne_x1_a nin0)
  obtain ⟨_, _, ⟨T5, L5, k5, n5⟩, -, X5, ⟨Lc5, hQ5, l5, y5, z5⟩, st5⟩ := Jvm.LawKit.callS X4 hx (y := (⟨"java/lang/Integer", "valueOf", "(I)Ljava/lang/Integer;"⟩ : MethodName)) hown (mvT hZ (hw _ (List.mem_of_getElem? (i := 26) rfl))) (mvT hZ (hw _ (List.mem_of_getElem? (i := 27) rfl))) (mvT hZ (hw _ (List.mem_of_getElem? (i := 28) rfl))) (mvT hZ (hw _ (List.mem_of_getElem? (i := 29) rfl))) (by decide) (backOf (W := 1) (own_val l Z a0 hw [] p1 D cD ich icc kA kS f0 f1 f2 f3 T4.heap n0 O4 K ) hZ (hw _ (List.mem_of_getElem? (i := 29) rfl)) (hw _ (List.mem_of_getElem? (i := 28) rfl)) (by decide) (by decide)) (g := (mkF m 39 #[.val (.int p0), .val (.int p1), .val (.int p2), .val (.int p3), .val (.int (3 : Int32)), .val (.ref a), .unset, .unset, .unset, .unset, .unset, .unset, .unset, .unset, .unset] [(.int p1), (.ref a)])) rfl (by rw [hml]; rfl) (argsL := [(.int p1)]) (rest := [(.ref a)]) (lenOf own_pd9 rfl) rfl (by show 2 * 0 + _ ≤ _; exact Nat.le_of_eq rfl) (hb hby at_39) (fun _ _ => ⟨rfl, rfl, (by decide : 3 + 1 ≤ _), (by decide : 14 + 1 ≤ _)⟩)
  dsimp only [Pt.U, Pt.locs, Pt.cells, Pt.slots] at X5 l5 y5 z5 st5 hQ5
  subst l5 y5 z5
  obtain ⟨x2, rfl, N5q, O5, K5, p5_E_r, p5_F_r_value⟩ := hQ5
  have N5 := Fr.app N4 N5q
  have f5_E_x1 := f4_E_x1.keep K5
  have f5_F_x1_value := f4_F_x1_value.keep K5 nin0
  have f5_L_a := own_AL_keep p4_L_a K5 nin0 nin0
  have ne_x2_a : x2 ≠ a := ne_exa p5_E_r f5_L_a.1 (by decide)
  have ne_x2_ea : x2 ≠ ea := own_neEA p5_E_r (hw _ (List.mem_of_getElem? (i := 156) rfl)) f5_L_a
  obtain ⟨cq6, kq6, q6a, q6b, q6c⟩ := isOf hZ rfl f5_L_a.1
  obtain ⟨_, _, ⟨T6, L6, k6, n6⟩, -, X6, ⟨Lc6, hQ6, l6, y6, z6⟩, st6⟩ := X5.interfaceBack hx (xi := (⟨"java/util/List", "add", "(Ljava/lang/Object;)Z"⟩ : MethodName)) (y := (⟨"java/util/ArrayList", "add", "(Ljava/lang/Object;)Z"⟩ : MethodName)) hown (mvT hZ (hw _ (List.mem_of_getElem? (i := 33) rfl))) (mvT hZ (hw _ (List.mem_of_getElem? (i := 34) rfl))) (mvT hZ (hw _ (List.mem_of_getElem? (i := 35) rfl))) (mvT hZ (hw _ (List.mem_of_getElem? (i := 36) rfl))) (mvT hZ (hw _ (List.mem_of_getElem? (i := 37) rfl))) (mvT hZ (hw _ (List.mem_of_getElem? (i := 38) rfl))) (mvT hZ (hw _ (List.mem_of_getElem? (i := 39) rfl))) (mvT hZ (hw _ (List.mem_of_getElem? (i := 40) rfl))) (by decide) (backOf (W := 0) (own_addm1 l Z a0 hw [] a x2 ea (own_uv (fun _ => Value.null) 0 (.ref x1)) T5.heap n0 O5  f5_L_a g_a g_ea (Ins.of_exa p5_E_r (hw _ (List.mem_of_getElem? (i := 67) rfl)))) hZ (hw _ (List.mem_of_getElem? (i := 41) rfl)) (hw _ (List.mem_of_getElem? (i := 2) rfl)) (by decide) (by decide)) q6a q6b q6c (g := (mkF m 42 #[.val (.int p0), .val (.int p1), .val (.int p2), .val (.int p3), .val (.int (3 : Int32)), .val (.ref a), .unset, .unset, .unset, .unset, .unset, .unset, .unset, .unset, .unset] [(.ref x2), (.ref a)])) rfl (by rw [hml]; rfl) (Steps.refl _) (argsL := [(.ref x2)]) (rest := []) (lenOf own_pd10 rfl) rfl (by show 2 * 0 + _ ≤ _; exact Nat.le_of_eq rfl) (hb hby at_42) (fun _ _ => ⟨rfl, rfl, (by decide : 4 + 0 ≤ _), (by decide : 15 + 0 ≤ _)⟩)
  dsimp only [Pt.U, Pt.locs, Pt.cells, Pt.slots] at X6 l6 y6 z6 st6 hQ6
  subst l6 y6 z6
  obtain ⟨rfl, N6q, O6, K6, p6_L_a⟩ := hQ6
  have N6 := Fr.app N5 N6q
  have f6_E_x1 := f5_E_x1.keep K6
  have f6_F_x1_value := f5_F_x1_value.keep K6 (ninS ne_x1_a (ninS ne_x1_ea nin0))
  have f6_E_x2 := p5_E_r.keep K6
  have f6_F_x2_value := p5_F_r_value.keep K6 (ninS ne_x2_a (ninS ne_x2_ea nin0))
  obtain ⟨_, _, ⟨T7, L7, k7, n7⟩, -, X7, ⟨Lc7, hQ7, l7, y7, z7⟩, st7⟩ := Jvm.LawKit.callS X6 hx (y := (⟨"java/lang/Integer", "valueOf", "(I)Ljava/lang/Integer;"⟩ : MethodName)) hown (mvT hZ (hw _ (List.mem_of_getElem? (i := 26) rfl))) (mvT hZ (hw _ (List.mem_of_getElem? (i := 27) rfl))) (mvT hZ (hw _ (List.mem_of_getElem? (i := 28) rfl))) (mvT hZ (hw _ (List.mem_of_getElem? (i := 29) rfl))) (by decide) (backOf (W := 1) (own_val l Z a0 hw [] p2 D cD ich icc kA kS f0 f1 f2 f3 T6.heap n0 O6 K ) hZ (hw _ (List.mem_of_getElem? (i := 29) rfl)) (hw _ (List.mem_of_getElem? (i := 28) rfl)) (by decide) (by decide)) (g := (mkF m 57 #[.val (.int p0), .val (.int p1), .val (.int p2), .val (.int p3), .val (.int (3 : Int32)), .val (.ref a), .unset, .unset, .unset, .unset, .unset, .unset, .unset, .unset, .unset] [(.int p2), (.ref a)])) rfl (by rw [hml]; rfl) (argsL := [(.int p2)]) (rest := [(.ref a)]) (lenOf own_pd9 rfl) rfl (by show 2 * 0 + _ ≤ _; exact Nat.le_of_eq rfl) (hb hby at_57) (fun _ _ => ⟨rfl, rfl, (by decide : 4 + 1 ≤ _), (by decide : 15 + 1 ≤ _)⟩)
  dsimp only [Pt.U, Pt.locs, Pt.cells, Pt.slots] at X7 l7 y7 z7 st7 hQ7
  subst l7 y7 z7
  obtain ⟨x3, rfl, N7q, O7, K7, p7_E_r, p7_F_r_value⟩ := hQ7
  have N7 := Fr.app N6 N7q
  have f7_E_x1 := f6_E_x1.keep K7
  have f7_F_x1_value := f6_F_x1_value.keep K7 nin0
  have f7_E_x2 := f6_E_x2.keep K7
  have f7_F_x2_value := f6_F_x2_value.keep K7 nin0
  have f7_L_a := own_AL_keep p6_L_a K7 nin0 nin0
  have ne_x3_a : x3 ≠ a := ne_exa p7_E_r f7_L_a.1 (by decide)
  have ne_x3_ea : x3 ≠ ea := own_neEA p7_E_r (hw _ (List.mem_of_getElem? (i := 156) rfl)) f7_L_a
  obtain ⟨cq8, kq8, q8a, q8b, q8c⟩ := isOf hZ rfl f7_L_a.1
  obtain ⟨_, _, ⟨T8, L8, k8, n8⟩, -, X8, ⟨Lc8, hQ8, l8, y8, z8⟩, st8⟩ := X7.interfaceBack hx (xi := (⟨"java/util/List", "add", "(Ljava/lang/Object;)Z"⟩ : MethodName)) (y := (⟨"java/util/ArrayList", "add", "(Ljava/lang/Object;)Z"⟩ : MethodName)) hown (mvT hZ (hw _ (List.mem_of_getElem? (i := 33) rfl))) (mvT hZ (hw _ (List.mem_of_getElem? (i := 34) rfl))) (mvT hZ (hw _ (List.mem_of_getElem? (i := 35) rfl))) (mvT hZ (hw _ (List.mem_of_getElem? (i := 36) rfl))) (mvT hZ (hw _ (List.mem_of_getElem? (i := 37) rfl))) (mvT hZ (hw _ (List.mem_of_getElem? (i := 38) rfl))) (mvT hZ (hw _ (List.mem_of_getElem? (i := 39) rfl))) (mvT hZ (hw _ (List.mem_of_getElem? (i := 40) rfl))) (by decide) (backOf (W := 0) (own_addm2 l Z a0 hw [] a x3 ea (own_uv (own_uv (fun _ => Value.null) 0 (.ref x1)) 1 (.ref x2)) T7.heap n0 O7  f7_L_a g_a g_ea (Ins.of_exa p7_E_r (hw _ (List.mem_of_getElem? (i := 67) rfl)))) hZ (hw _ (List.mem_of_getElem? (i := 41) rfl)) (hw _ (List.mem_of_getElem? (i := 2) rfl)) (by decide) (by decide)) q8a q8b q8c (g := (mkF m 60 #[.val (.int p0), .val (.int p1), .val (.int p2), .val (.int p3), .val (.int (3 : Int32)), .val (.ref a), .unset, .unset, .unset, .unset, .unset, .unset, .unset, .unset, .unset] [(.ref x3), (.ref a)])) rfl (by rw [hml]; rfl) (Steps.refl _) (argsL := [(.ref x3)]) (rest := []) (lenOf own_pd10 rfl) rfl (by show 2 * 0 + _ ≤ _; exact Nat.le_of_eq rfl) (hb hby at_60) (fun _ _ => ⟨rfl, rfl, (by decide : 5 + 0 ≤ _), (by decide : 16 + 0 ≤ _)⟩)
  dsimp only [Pt.U, Pt.locs, Pt.cells, Pt.slots] at X8 l8 y8 z8 st8 hQ8
  subst l8 y8 z8
  obtain ⟨rfl, N8q, O8, K8, p8_L_a⟩ := hQ8
  have N8 := Fr.app N7 N8q
  have f8_E_x1 := f7_E_x1.keep K8
  have f8_F_x1_value := f7_F_x1_value.keep K8 (ninS ne_x1_a (ninS ne_x1_ea nin0))
  have f8_E_x2 := f7_E_x2.keep K8
  have f8_F_x2_value := f7_F_x2_value.keep K8 (ninS ne_x2_a (ninS ne_x2_ea nin0))
  have f8_E_x3 := p7_E_r.keep K8
  have f8_F_x3_value := p7_F_r_value.keep K8 (ninS ne_x3_a (ninS ne_x3_ea nin0))
  obtain ⟨T9, kd, hv9, ⟨X9, e9⟩, st9⟩ : ∃ (T' : State) (kd : Addr), ((((p3 >>> ((2 : Int32) &&& 31)) &&& (1 : Int32)) = (0 : Int32) ∧ kd = kA) ∨ (¬ (((p3 >>> ((2 : Int32) &&& 31)) &&& (1 : Int32)) = (0 : Int32)) ∧ kd = kS)) ∧ own_Go X8 T8.heap T' ∧ ∀ target, Steps p.tables e below (T'.setTop (mkF m 83 #[.val (.int p0), .val (.int p1), .val (.int p2), .val (.int p3), .val (.int (3 : Int32)), .val (.ref a), .unset, .unset, .unset, .unset, .unset, .unset, .unset, .unset, .unset] [(.ref kd)])) target → Steps p.tables e below (T8.setTop (mkF m 71 #[.val (.int p0), .val (.int p1), .val (.int p2), .val (.int p3), .val (.int (3 : Int32)), .val (.ref a), .unset, .unset, .unset, .unset, .unset, .unset, .unset, .unset, .unset] [(.int ((p3 >>> ((2 : Int32) &&& 31)) &&& (1 : Int32)))])) target := by
    by_cases hf9 : ((p3 >>> ((2 : Int32) &&& 31)) &&& (1 : Int32)) = (0 : Int32)
    · obtain ⟨T10, X10, e10, st10⟩ := getS2 X8 hx hZ hown (host := "") (Or.inl (hw _ (List.mem_of_getElem? (i := 68) rfl))) Via.refl rfl (SA.ext O8.2) (g := (mkF m 80 #[.val (.int p0), .val (.int p1), .val (.int p2), .val (.int p3), .val (.int (3 : Int32)), .val (.ref a), .unset, .unset, .unset, .unset, .unset, .unset, .unset, .unset, .unset] [])) rfl (hb hby at_80)
      refine ⟨T10, kA, Or.inl ⟨hf9, rfl⟩, ⟨X10, e10⟩, fun target kgo_ => ?_⟩
      show Steps p.tables e below (T8.setTop (mkF m 71 #[.val (.int p0), .val (.int p1), .val (.int p2), .val (.int p3), .val (.int (3 : Int32)), .val (.ref a), .unset, .unset, .unset, .unset, .unset, .unset, .unset, .unset, .unset] [(.int ((p3 >>> ((2 : Int32) &&& 31)) &&& (1 : Int32)))])) _
      refine XS.ifYes X8.here hx rfl (pc0 := 71) (pc' := 80) rfl (hb hby at_71) rfl ((if0 _ _).trans (teq hf9).1) (by decide) (by decide) ?_
      show Steps p.tables e below (T8.setTop (mkF m 80 #[.val (.int p0), .val (.int p1), .val (.int p2), .val (.int p3), .val (.int (3 : Int32)), .val (.ref a), .unset, .unset, .unset, .unset, .unset, .unset, .unset, .unset, .unset] [])) _
      refine st10 _ ?_
      show Steps p.tables e below (T10.setTop (mkF m 83 #[.val (.int p0), .val (.int p1), .val (.int p2), .val (.int p3), .val (.int (3 : Int32)), .val (.ref a), .unset, .unset, .unset, .unset, .unset, .unset, .unset, .unset, .unset] [(.ref kA)])) _
      exact kgo_
    · obtain ⟨T11, X11, e11, st11⟩ := getS2 X8 hx hZ hown (host := "") (Or.inl (hw _ (List.mem_of_getElem? (i := 109) rfl))) Via.refl rfl (SS.ext O8.2) (g := (mkF m 74 #[.val (.int p0), .val (.int p1), .val (.int p2), .val (.int p3), .val (.int (3 : Int32)), .val (.ref a), .unset, .unset, .unset, .unset, .unset, .unset, .unset, .unset, .unset] [])) rfl (hb hby at_74)
      refine ⟨T11, kS, Or.inr ⟨hf9, rfl⟩, ⟨X11, e11⟩, fun target kgo_ => ?_⟩
      show Steps p.tables e below (T8.setTop (mkF m 71 #[.val (.int p0), .val (.int p1), .val (.int p2), .val (.int p3), .val (.int (3 : Int32)), .val (.ref a), .unset, .unset, .unset, .unset, .unset, .unset, .unset, .unset, .unset] [(.int ((p3 >>> ((2 : Int32) &&& 31)) &&& (1 : Int32)))])) _
      refine XS.ifNo X8.here hx rfl (hb hby at_71) rfl ((if0 _ _).trans (feq hf9).1) ?_
      show Steps p.tables e below (T8.setTop (mkF m 74 #[.val (.int p0), .val (.int p1), .val (.int p2), .val (.int p3), .val (.int (3 : Int32)), .val (.ref a), .unset, .unset, .unset, .unset, .unset, .unset, .unset, .unset, .unset] [])) _
      refine st11 _ ?_
      show Steps p.tables e below (T11.setTop (mkF m 77 #[.val (.int p0), .val (.int p1), .val (.int p2), .val (.int p3), .val (.int (3 : Int32)), .val (.ref a), .unset, .unset, .unset, .unset, .unset, .unset, .unset, .unset, .unset] [(.ref kS)])) _
      refine XS.goto X11.here hx rfl (pc0 := 77) (pc' := 83) rfl (hb hby at_77) (by decide) (by decide) ?_
      show Steps p.tables e below (T11.setTop (mkF m 83 #[.val (.int p0), .val (.int p1), .val (.int p2), .val (.int p3), .val (.int (3 : Int32)), .val (.ref a), .unset, .unset, .unset, .unset, .unset, .unset, .unset, .unset, .unset] [(.ref kS)])) _
      exact kgo_
  obtain ⟨T12, fo, hv12, ⟨X12, e12⟩, st12⟩ : ∃ (T' : State) (fo : Addr), ((((p3 >>> ((3 : Int32) &&& 31)) &&& (3 : Int32)) = (0 : Int32) ∧ fo = f0) ∨ (¬ (((p3 >>> ((3 : Int32) &&& 31)) &&& (3 : Int32)) = (0 : Int32)) ∧ ((((p3 >>> ((3 : Int32) &&& 31)) &&& (3 : Int32)) = (1 : Int32) ∧ fo = f1) ∨ (¬ (((p3 >>> ((3 : Int32) &&& 31)) &&& (3 : Int32)) = (1 : Int32)) ∧ ((((p3 >>> ((3 : Int32) &&& 31)) &&& (3 : Int32)) = (2 : Int32) ∧ fo = f2) ∨ (¬ (((p3 >>> ((3 : Int32) &&& 31)) &&& (3 : Int32)) = (2 : Int32)) ∧ fo = f3)))))) ∧ own_Go X9 T8.heap T' ∧ ∀ target, Steps p.tables e below (T'.setTop (mkF m 130 #[.val (.int p0), .val (.int p1), .val (.int p2), .val (.int p3), .val (.int (3 : Int32)), .val (.ref a), .val (.ref kd), .val (.int ((p3 >>> ((3 : Int32) &&& 31)) &&& (3 : Int32))), .unset, .unset, .unset, .unset, .unset, .unset, .unset] [(.ref fo)])) target → Steps p.tables e below (T9.setTop (mkF m 94 #[.val (.int p0), .val (.int p1), .val (.int p2), .val (.int p3), .val (.int (3 : Int32)), .val (.ref a), .val (.ref kd), .val (.int ((p3 >>> ((3 : Int32) &&& 31)) &&& (3 : Int32))), .unset, .unset, .unset, .unset, .unset, .unset, .unset] [(.int ((p3 >>> ((3 : Int32) &&& 31)) &&& (3 : Int32)))])) target := by
    by_cases hf12 : ((p3 >>> ((3 : Int32) &&& 31)) &&& (3 : Int32)) = (0 : Int32)
    · obtain ⟨T13, X13, e13, st13⟩ := getS2 X9 hx hZ hown (host := "") (Or.inl (hw _ (List.mem_of_getElem? (i := 71) rfl))) Via.refl e9 (S0.ext O8.2) (g := (mkF m 97 #[.val (.int p0), .val (.int p1), .val (.int p2), .val (.int p3), .val (.int (3 : Int32)), .val (.ref a), .val (.ref kd), .val (.int ((p3 >>> ((3 : Int32) &&& 31)) &&& (3 : Int32))), .unset, .unset, .unset, .unset, .unset, .unset, .unset] [])) rfl (hb hby at_97)
      refine ⟨T13, f0, Or.inl ⟨hf12, rfl⟩, ⟨X13, e13⟩, fun target kgo_ => ?_⟩
      show Steps p.tables e below (T9.setTop (mkF m 94 #[.val (.int p0), .val (.int p1), .val (.int p2), .val (.int p3), .val (.int (3 : Int32)), .val (.ref a), .val (.ref kd), .val (.int ((p3 >>> ((3 : Int32) &&& 31)) &&& (3 : Int32))), .unset, .unset, .unset, .unset, .unset, .unset, .unset] [(.int ((p3 >>> ((3 : Int32) &&& 31)) &&& (3 : Int32)))])) _
      refine XS.ifNo X9.here hx rfl (hb hby at_94) rfl ((if0 _ _).trans (teq hf12).2) ?_
      show Steps p.tables e below (T9.setTop (mkF m 97 #[.val (.int p0), .val (.int p1), .val (.int p2), .val (.int p3), .val (.int (3 : Int32)), .val (.ref a), .val (.ref kd), .val (.int ((p3 >>> ((3 : Int32) &&& 31)) &&& (3 : Int32))), .unset, .unset, .unset, .unset, .unset, .unset, .unset] [])) _
      refine st13 _ ?_
      show Steps p.tables e below (T13.setTop (mkF m 100 #[.val (.int p0), .val (.int p1), .val (.int p2), .val (.int p3), .val (.int (3 : Int32)), .val (.ref a), .val (.ref kd), .val (.int ((p3 >>> ((3 : Int32) &&& 31)) &&& (3 : Int32))), .unset, .unset, .unset, .unset, .unset, .unset, .unset] [(.ref f0)])) _
      refine XS.goto X13.here hx rfl (pc0 := 100) (pc' := 130) rfl (hb hby at_100) (by decide) (by decide) ?_
      show Steps p.tables e below (T13.setTop (mkF m 130 #[.val (.int p0), .val (.int p1), .val (.int p2), .val (.int p3), .val (.int (3 : Int32)), .val (.ref a), .val (.ref kd), .val (.int ((p3 >>> ((3 : Int32) &&& 31)) &&& (3 : Int32))), .unset, .unset, .unset, .unset, .unset, .unset, .unset] [(.ref f0)])) _
      exact kgo_
    · obtain ⟨T14, w14_0, hv14, ⟨X14, e14⟩, st14⟩ : ∃ (T' : State) (w14_0 : Addr), ((((p3 >>> ((3 : Int32) &&& 31)) &&& (3 : Int32)) = (1 : Int32) ∧ w14_0 = f1) ∨ (¬ (((p3 >>> ((3 : Int32) &&& 31)) &&& (3 : Int32)) = (1 : Int32)) ∧ ((((p3 >>> ((3 : Int32) &&& 31)) &&& (3 : Int32)) = (2 : Int32) ∧ w14_0 = f2) ∨ (¬ (((p3 >>> ((3 : Int32) &&& 31)) &&& (3 : Int32)) = (2 : Int32)) ∧ w14_0 = f3)))) ∧ own_Go X9 T8.heap T' ∧ ∀ target, Steps p.tables e below (T'.setTop (mkF m 130 #[.val (.int p0), .val (.int p1), .val (.int p2), .val (.int p3), .val (.int (3 : Int32)), .val (.ref a), .val (.ref kd), .val (.int ((p3 >>> ((3 : Int32) &&& 31)) &&& (3 : Int32))), .unset, .unset, .unset, .unset, .unset, .unset, .unset] [(.ref w14_0)])) target → Steps p.tables e below (T9.setTop (mkF m 106 #[.val (.int p0), .val (.int p1), .val (.int p2), .val (.int p3), .val (.int (3 : Int32)), .val (.ref a), .val (.ref kd), .val (.int ((p3 >>> ((3 : Int32) &&& 31)) &&& (3 : Int32))), .unset, .unset, .unset, .unset, .unset, .unset, .unset] [(.int (1 : Int32)), (.int ((p3 >>> ((3 : Int32) &&& 31)) &&& (3 : Int32)))])) target := by
        by_cases hf14 : ((p3 >>> ((3 : Int32) &&& 31)) &&& (3 : Int32)) = (1 : Int32)
        · obtain ⟨T15, X15, e15, st15⟩ := getS2 X9 hx hZ hown (host := "") (Or.inl (hw _ (List.mem_of_getElem? (i := 153) rfl))) Via.refl e9 (S1.ext O8.2) (g := (mkF m 109 #[.val (.int p0), .val (.int p1), .val (.int p2), .val (.int p3), .val (.int (3 : Int32)), .val (.ref a), .val (.ref kd), .val (.int ((p3 >>> ((3 : Int32) &&& 31)) &&& (3 : Int32))), .unset, .unset, .unset, .unset, .unset, .unset, .unset] [])) rfl (hb hby at_109)
          refine ⟨T15, f1, Or.inl ⟨hf14, rfl⟩, ⟨X15, e15⟩, fun target kgo_ => ?_⟩
          show Steps p.tables e below (T9.setTop (mkF m 106 #[.val (.int p0), .val (.int p1), .val (.int p2), .val (.int p3), .val (.int (3 : Int32)), .val (.ref a), .val (.ref kd), .val (.int ((p3 >>> ((3 : Int32) &&& 31)) &&& (3 : Int32))), .unset, .unset, .unset, .unset, .unset, .unset, .unset] [(.int (1 : Int32)), (.int ((p3 >>> ((3 : Int32) &&& 31)) &&& (3 : Int32)))])) _
          refine XS.icmpNo X9.here hx rfl (hb hby at_106) rfl (teq hf14).2 ?_
          show Steps p.tables e below (T9.setTop (mkF m 109 #[.val (.int p0), .val (.int p1), .val (.int p2), .val (.int p3), .val (.int (3 : Int32)), .val (.ref a), .val (.ref kd), .val (.int ((p3 >>> ((3 : Int32) &&& 31)) &&& (3 : Int32))), .unset, .unset, .unset, .unset, .unset, .unset, .unset] [])) _
          refine st15 _ ?_
          show Steps p.tables e below (T15.setTop (mkF m 112 #[.val (.int p0), .val (.int p1), .val (.int p2), .val (.int p3), .val (.int (3 : Int32)), .val (.ref a), .val (.ref kd), .val (.int ((p3 >>> ((3 : Int32) &&& 31)) &&& (3 : Int32))), .unset, .unset, .unset, .unset, .unset, .unset, .unset] [(.ref f1)])) _
          refine XS.goto X15.here hx rfl (pc0 := 112) (pc' := 130) rfl (hb hby at_112) (by decide) (by decide) ?_
          show Steps p.tables e below (T15.setTop (mkF m 130 #[.val (.int p0), .val (.int p1), .val (.int p2), .val (.int p3), .val (.int (3 : Int32)), .val (.ref a), .val (.ref kd), .val (.int ((p3 >>> ((3 : Int32) &&& 31)) &&& (3 : Int32))), .unset, .unset, .unset, .unset, .unset, .unset, .unset] [(.ref f1)])) _
          exact kgo_
        · obtain ⟨T16, w16_0, hv16, ⟨X16, e16⟩, st16⟩ : ∃ (T' : State) (w16_0 : Addr), ((((p3 >>> ((3 : Int32) &&& 31)) &&& (3 : Int32)) = (2 : Int32) ∧ w16_0 = f2) ∨ (¬ (((p3 >>> ((3 : Int32) &&& 31)) &&& (3 : Int32)) = (2 : Int32)) ∧ w16_0 = f3)) ∧ own_Go X9 T8.heap T' ∧ ∀ target, Steps p.tables e below (T'.setTop (mkF m 130 #[.val (.int p0), .val (.int p1), .val (.int p2), .val (.int p3), .val (.int (3 : Int32)), .val (.ref a), .val (.ref kd), .val (.int ((p3 >>> ((3 : Int32) &&& 31)) &&& (3 : Int32))), .unset, .unset, .unset, .unset, .unset, .unset, .unset] [(.ref w16_0)])) target → Steps p.tables e below (T9.setTop (mkF m 118 #[.val (.int p0), .val (.int p1), .val (.int p2), .val (.int p3), .val (.int (3 : Int32)), .val (.ref a), .val (.ref kd), .val (.int ((p3 >>> ((3 : Int32) &&& 31)) &&& (3 : Int32))), .unset, .unset, .unset, .unset, .unset, .unset, .unset] [(.int (2 : Int32)), (.int ((p3 >>> ((3 : Int32) &&& 31)) &&& (3 : Int32)))])) target := by
            by_cases hf16 : ((p3 >>> ((3 : Int32) &&& 31)) &&& (3 : Int32)) = (2 : Int32)
            · obtain ⟨T17, X17, e17, st17⟩ := getS2 X9 hx hZ hown (host := "") (Or.inl (hw _ (List.mem_of_getElem? (i := 168) rfl))) Via.refl e9 (S2.ext O8.2) (g := (mkF m 121 #[.val (.int p0), .val (.int p1), .val (.int p2), .val (.int p3), .val (.int (3 : Int32)), .val (.ref a), .val (.ref kd), .val (.int ((p3 >>> ((3 : Int32) &&& 31)) &&& (3 : Int32))), .unset, .unset, .unset, .unset, .unset, .unset, .unset] [])) rfl (hb hby at_121)
              refine ⟨T17, f2, Or.inl ⟨hf16, rfl⟩, ⟨X17, e17⟩, fun target kgo_ => ?_⟩
              show Steps p.tables e below (T9.setTop (mkF m 118 #[.val (.int p0), .val (.int p1), .val (.int p2), .val (.int p3), .val (.int (3 : Int32)), .val (.ref a), .val (.ref kd), .val (.int ((p3 >>> ((3 : Int32) &&& 31)) &&& (3 : Int32))), .unset, .unset, .unset, .unset, .unset, .unset, .unset] [(.int (2 : Int32)), (.int ((p3 >>> ((3 : Int32) &&& 31)) &&& (3 : Int32)))])) _
              refine XS.icmpNo X9.here hx rfl (hb hby at_118) rfl (teq hf16).2 ?_
              show Steps p.tables e below (T9.setTop (mkF m 121 #[.val (.int p0), .val (.int p1), .val (.int p2), .val (.int p3), .val (.int (3 : Int32)), .val (.ref a), .val (.ref kd), .val (.int ((p3 >>> ((3 : Int32) &&& 31)) &&& (3 : Int32))), .unset, .unset, .unset, .unset, .unset, .unset, .unset] [])) _
              refine st17 _ ?_
              show Steps p.tables e below (T17.setTop (mkF m 124 #[.val (.int p0), .val (.int p1), .val (.int p2), .val (.int p3), .val (.int (3 : Int32)), .val (.ref a), .val (.ref kd), .val (.int ((p3 >>> ((3 : Int32) &&& 31)) &&& (3 : Int32))), .unset, .unset, .unset, .unset, .unset, .unset, .unset] [(.ref f2)])) _
              refine XS.goto X17.here hx rfl (pc0 := 124) (pc' := 130) rfl (hb hby at_124) (by decide) (by decide) ?_
              show Steps p.tables e below (T17.setTop (mkF m 130 #[.val (.int p0), .val (.int p1), .val (.int p2), .val (.int p3), .val (.int (3 : Int32)), .val (.ref a), .val (.ref kd), .val (.int ((p3 >>> ((3 : Int32) &&& 31)) &&& (3 : Int32))), .unset, .unset, .unset, .unset, .unset, .unset, .unset] [(.ref f2)])) _
              exact kgo_
            · obtain ⟨T18, X18, e18, st18⟩ := getS2 X9 hx hZ hown (host := "") (Or.inl (hw _ (List.mem_of_getElem? (i := 170) rfl))) Via.refl e9 (S3.ext O8.2) (g := (mkF m 127 #[.val (.int p0), .val (.int p1), .val (.int p2), .val (.int p3), .val (.int (3 : Int32)), .val (.ref a), .val (.ref kd), .val (.int ((p3 >>> ((3 : Int32) &&& 31)) &&& (3 : Int32))), .unset, .unset, .unset, .unset, .unset, .unset, .unset] [])) rfl (hb hby at_127)
              refine ⟨T18, f3, Or.inr ⟨hf16, rfl⟩, ⟨X18, e18⟩, fun target kgo_ => ?_⟩
              show Steps p.tables e below (T9.setTop (mkF m 118 #[.val (.int p0), .val (.int p1), .val (.int p2), .val (.int p3), .val (.int (3 : Int32)), .val (.ref a), .val (.ref kd), .val (.int ((p3 >>> ((3 : Int32) &&& 31)) &&& (3 : Int32))), .unset, .unset, .unset, .unset, .unset, .unset, .unset] [(.int (2 : Int32)), (.int ((p3 >>> ((3 : Int32) &&& 31)) &&& (3 : Int32)))])) _
              refine XS.icmpYes X9.here hx rfl (pc0 := 118) (pc' := 127) rfl (hb hby at_118) rfl (feq hf16).2 (by decide) (by decide) ?_
              show Steps p.tables e below (T9.setTop (mkF m 127 #[.val (.int p0), .val (.int p1), .val (.int p2), .val (.int p3), .val (.int (3 : Int32)), .val (.ref a), .val (.ref kd), .val (.int ((p3 >>> ((3 : Int32) &&& 31)) &&& (3 : Int32))), .unset, .unset, .unset, .unset, .unset, .unset, .unset] [])) _
              refine st18 _ ?_
              show Steps p.tables e below (T18.setTop (mkF m 130 #[.val (.int p0), .val (.int p1), .val (.int p2), .val (.int p3), .val (.int (3 : Int32)), .val (.ref a), .val (.ref kd), .val (.int ((p3 >>> ((3 : Int32) &&& 31)) &&& (3 : Int32))), .unset, .unset, .unset, .unset, .unset, .unset, .unset] [(.ref f3)])) _
              exact kgo_
          refine ⟨T16, w16_0, Or.inr ⟨hf14, hv16⟩, ⟨X16, e16⟩, fun target kgo_ => ?_⟩
          show Steps p.tables e below (T9.setTop (mkF m 106 #[.val (.int p0), .val (.int p1), .val (.int p2), .val (.int p3), .val (.int (3 : Int32)), .val (.ref a), .val (.ref kd), .val (.int ((p3 >>> ((3 : Int32) &&& 31)) &&& (3 : Int32))), .unset, .unset, .unset, .unset, .unset, .unset, .unset] [(.int (1 : Int32)), (.int ((p3 >>> ((3 : Int32) &&& 31)) &&& (3 : Int32)))])) _
          refine XS.icmpYes X9.here hx rfl (pc0 := 106) (pc' := 115) rfl (hb hby at_106) rfl (feq hf14).2 (by decide) (by decide) ?_
          show Steps p.tables e below (T9.setTop (mkF m 115 #[.val (.int p0), .val (.int p1), .val (.int p2), .val (.int p3), .val (.int (3 : Int32)), .val (.ref a), .val (.ref kd), .val (.int ((p3 >>> ((3 : Int32) &&& 31)) &&& (3 : Int32))), .unset, .unset, .unset, .unset, .unset, .unset, .unset] [])) _
          refine XS.iload X9.here hx rfl (hb hby at_115) rfl ?_
          show Steps p.tables e below (T9.setTop (mkF m 117 #[.val (.int p0), .val (.int p1), .val (.int p2), .val (.int p3), .val (.int (3 : Int32)), .val (.ref a), .val (.ref kd), .val (.int ((p3 >>> ((3 : Int32) &&& 31)) &&& (3 : Int32))), .unset, .unset, .unset, .unset, .unset, .unset, .unset] [(.int ((p3 >>> ((3 : Int32) &&& 31)) &&& (3 : Int32)))])) _
          refine XS.iconst X9.here hx rfl (hb hby at_117) ?_
          refine st16 _ ?_
          show Steps p.tables e below (T16.setTop (mkF m 130 #[.val (.int p0), .val (.int p1), .val (.int p2), .val (.int p3), .val (.int (3 : Int32)), .val (.ref a), .val (.ref kd), .val (.int ((p3 >>> ((3 : Int32) &&& 31)) &&& (3 : Int32))), .unset, .unset, .unset, .unset, .unset, .unset, .unset] [(.ref w16_0)])) _
          exact kgo_
      refine ⟨T14, w14_0, Or.inr ⟨hf12, hv14⟩, ⟨X14, e14⟩, fun target kgo_ => ?_⟩
      show Steps p.tables e below (T9.setTop (mkF m 94 #[.val (.int p0), .val (.int p1), .val (.int p2), .val (.int p3), .val (.int (3 : Int32)), .val (.ref a), .val (.ref kd), .val (.int ((p3 >>> ((3 : Int32) &&& 31)) &&& (3 : Int32))), .unset, .unset, .unset, .unset, .unset, .unset, .unset] [(.int ((p3 >>> ((3 : Int32) &&& 31)) &&& (3 : Int32)))])) _
      refine XS.ifYes X9.here hx rfl (pc0 := 94) (pc' := 103) rfl (hb hby at_94) rfl ((if0 _ _).trans (feq hf12).2) (by decide) (by decide) ?_
      show Steps p.tables e below (T9.setTop (mkF m 103 #[.val (.int p0), .val (.int p1), .val (.int p2), .val (.int p3), .val (.int (3 : Int32)), .val (.ref a), .val (.ref kd), .val (.int ((p3 >>> ((3 : Int32) &&& 31)) &&& (3 : Int32))), .unset, .unset, .unset, .unset, .unset, .unset, .unset] [])) _
      refine XS.iload X9.here hx rfl (hb hby at_103) rfl ?_
      show Steps p.tables e below (T9.setTop (mkF m 105 #[.val (.int p0), .val (.int p1), .val (.int p2), .val (.int p3), .val (.int (3 : Int32)), .val (.ref a), .val (.ref kd), .val (.int ((p3 >>> ((3 : Int32) &&& 31)) &&& (3 : Int32))), .unset, .unset, .unset, .unset, .unset, .unset, .unset] [(.int ((p3 >>> ((3 : Int32) &&& 31)) &&& (3 : Int32)))])) _
      refine XS.iconst X9.here hx rfl (hb hby at_105) ?_
      refine st14 _ ?_
      show Steps p.tables e below (T14.setTop (mkF m 130 #[.val (.int p0), .val (.int p1), .val (.int p2), .val (.int p3), .val (.int (3 : Int32)), .val (.ref a), .val (.ref kd), .val (.int ((p3 >>> ((3 : Int32) &&& 31)) &&& (3 : Int32))), .unset, .unset, .unset, .unset, .unset, .unset, .unset] [(.ref w14_0)])) _
      exact kgo_
  obtain ⟨T19, car, hv19, ⟨X19, e19⟩, st19⟩ : ∃ (T' : State) (car : Int32), ((((p3 >>> ((5 : Int32) &&& 31)) &&& (1 : Int32)) = (0 : Int32) ∧ car = (0 : Int32)) ∨ (¬ (((p3 >>> ((5 : Int32) &&& 31)) &&& (1 : Int32)) = (0 : Int32)) ∧ car = (1 : Int32))) ∧ own_Go X12 T8.heap T' ∧ ∀ target, Steps p.tables e below (T'.setTop (mkF m 145 #[.val (.int p0), .val (.int p1), .val (.int p2), .val (.int p3), .val (.int (3 : Int32)), .val (.ref a), .val (.ref kd), .val (.int ((p3 >>> ((3 : Int32) &&& 31)) &&& (3 : Int32))), .val (.ref fo), .unset, .unset, .unset, .unset, .unset, .unset] [(.int car)])) target → Steps p.tables e below (T12.setTop (mkF m 137 #[.val (.int p0), .val (.int p1), .val (.int p2), .val (.int p3), .val (.int (3 : Int32)), .val (.ref a), .val (.ref kd), .val (.int ((p3 >>> ((3 : Int32) &&& 31)) &&& (3 : Int32))), .val (.ref fo), .unset, .unset, .unset, .unset, .unset, .unset] [(.int ((p3 >>> ((5 : Int32) &&& 31)) &&& (1 : Int32)))])) target := by
    by_cases hf19 : ((p3 >>> ((5 : Int32) &&& 31)) &&& (1 : Int32)) = (0 : Int32)
    · refine ⟨T12, (0 : Int32), Or.inl ⟨hf19, rfl⟩, ⟨X12, e12⟩, fun target kgo_ => ?_⟩
      show Steps p.tables e below (T12.setTop (mkF m 137 #[.val (.int p0), .val (.int p1), .val (.int p2), .val (.int p3), .val (.int (3 : Int32)), .val (.ref a), .val (.ref kd), .val (.int ((p3 >>> ((3 : Int32) &&& 31)) &&& (3 : Int32))), .val (.ref fo), .unset, .unset, .unset, .unset, .unset, .unset] [(.int ((p3 >>> ((5 : Int32) &&& 31)) &&& (1 : Int32)))])) _
      refine XS.ifYes X12.here hx rfl (pc0 := 137) (pc' := 144) rfl (hb hby at_137) rfl ((if0 _ _).trans (teq hf19).1) (by decide) (by decide) ?_
      show Steps p.tables e below (T12.setTop (mkF m 144 #[.val (.int p0), .val (.int p1), .val (.int p2), .val (.int p3), .val (.int (3 : Int32)), .val (.ref a), .val (.ref kd), .val (.int ((p3 >>> ((3 : Int32) &&& 31)) &&& (3 : Int32))), .val (.ref fo), .unset, .unset, .unset, .unset, .unset, .unset] [])) _
      refine XS.iconst X12.here hx rfl (hb hby at_144) ?_
      show Steps p.tables e below (T12.setTop (mkF m 145 #[.val (.int p0), .val (.int p1), .val (.int p2), .val (.int p3), .val (.int (3 : Int32)), .val (.ref a), .val (.ref kd), .val (.int ((p3 >>> ((3 : Int32) &&& 31)) &&& (3 : Int32))), .val (.ref fo), .unset, .unset, .unset, .unset, .unset, .unset] [(.int (0 : Int32))])) _
      exact kgo_
    · refine ⟨T12, (1 : Int32), Or.inr ⟨hf19, rfl⟩, ⟨X12, e12⟩, fun target kgo_ => ?_⟩
      show Steps p.tables e below (T12.setTop (mkF m 137 #[.val (.int p0), .val (.int p1), .val (.int p2), .val (.int p3), .val (.int (3 : Int32)), .val (.ref a), .val (.ref kd), .val (.int ((p3 >>> ((3 : Int32) &&& 31)) &&& (3 : Int32))), .val (.ref fo), .unset, .unset, .unset, .unset, .unset, .unset] [(.int ((p3 >>> ((5 : Int32) &&& 31)) &&& (1 : Int32)))])) _
      refine XS.ifNo X12.here hx rfl (hb hby at_137) rfl ((if0 _ _).trans (feq hf19).1) ?_
      show Steps p.tables e below (T12.setTop (mkF m 140 #[.val (.int p0), .val (.int p1), .val (.int p2), .val (.int p3), .val (.int (3 : Int32)), .val (.ref a), .val (.ref kd), .val (.int ((p3 >>> ((3 : Int32) &&& 31)) &&& (3 : Int32))), .val (.ref fo), .unset, .unset, .unset, .unset, .unset, .unset] [])) _
      refine XS.iconst X12.here hx rfl (hb hby at_140) ?_
      show Steps p.tables e below (T12.setTop (mkF m 141 #[.val (.int p0), .val (.int p1), .val (.int p2), .val (.int p3), .val (.int (3 : Int32)), .val (.ref a), .val (.ref kd), .val (.int ((p3 >>> ((3 : Int32) &&& 31)) &&& (3 : Int32))), .val (.ref fo), .unset, .unset, .unset, .unset, .unset, .unset] [(.int (1 : Int32))])) _
      refine XS.goto X12.here hx rfl (pc0 := 141) (pc' := 145) rfl (hb hby at_141) (by decide) (by decide) ?_
      show Steps p.tables e below (T12.setTop (mkF m 145 #[.val (.int p0), .val (.int p1), .val (.int p2), .val (.int p3), .val (.int (3 : Int32)), .val (.ref a), .val (.ref kd), .val (.int ((p3 >>> ((3 : Int32) &&& 31)) &&& (3 : Int32))), .val (.ref fo), .unset, .unset, .unset, .unset, .unset, .unset] [(.int (1 : Int32))])) _
      exact kgo_
  obtain ⟨T20, h20, X20, e20, E20, A20, D20, -, st20⟩ := newO X19 hx hZ hown (hw _ (List.mem_of_getElem? (i := 74) rfl)) (hw _ (List.mem_of_getElem? (i := 75) rfl)) (hw _ (List.mem_of_getElem? (i := 76) rfl)) e19 (g := (mkF m 147 #[.val (.int p0), .val (.int p1), .val (.int p2), .val (.int p3), .val (.int (3 : Int32)), .val (.ref a), .val (.ref kd), .val (.int ((p3 >>> ((3 : Int32) &&& 31)) &&& (3 : Int32))), .val (.ref fo), .val (.int car), .unset, .unset, .unset, .unset, .unset] [])) rfl (hb hby at_147) (by decide) (by decide)
  obtain ⟨q, g20⟩ : ∃ z, z = T8.heap.size := ⟨_, rfl⟩
  have g_q : n0 ≤ q := Nat.le_trans (Nat.le_trans (Nat.le_of_eq O8.1.symm) O8.2.1) (Nat.le_of_eq g20.symm)
  have ne_x1_q : x1 ≠ q := Nat.ne_of_lt (Nat.lt_of_lt_of_le f8_E_x1.lt (Nat.le_of_eq g20.symm))
  have ne_x2_q : x2 ≠ q := Nat.ne_of_lt (Nat.lt_of_lt_of_le f8_E_x2.lt (Nat.le_of_eq g20.symm))
  have ne_x3_q : x3 ≠ q := Nat.ne_of_lt (Nat.lt_of_lt_of_le f8_E_x3.lt (Nat.le_of_eq g20.symm))
  have ne_a_q : a ≠ q := Nat.ne_of_lt (Nat.lt_of_lt_of_le p8_L_a.1.lt (Nat.le_of_eq g20.symm))
  have ne_ea_q : ea ≠ q := Nat.ne_of_lt (Nat.lt_of_lt_of_le (own_AL_lt p8_L_a) (Nat.le_of_eq g20.symm))
  rw [← g20] at A20 D20 st20
  have f20_E_x1 := f8_E_x1.ext E20
  have f20_F_x1_value := f8_F_x1_value.ext E20
  have f20_E_x2 := f8_E_x2.ext E20
  have f20_F_x2_value := f8_F_x2_value.ext E20
  have f20_E_x3 := f8_E_x3.ext E20
  have f20_F_x3_value := f8_F_x3_value.ext E20
  have f20_L_a := p8_L_a.ext E20
  have O20 := O8.ext E20
  have F20_line : Fld Z h20 q "com/example/witnesseth/witnesseth/HeadingLine" "line" "I" (.int (0 : Int32)) := D20 (Or.inr (hw _ (List.mem_of_getElem? (i := 96) rfl))) (ty := .int) (by decide)
  have F20_kind : Fld Z h20 q "com/example/witnesseth/witnesseth/HeadingLine" "kind" "Lcom/example/witnesseth/witnesseth/Heading$Kind;" .null := D20 (Or.inr (hw _ (List.mem_of_getElem? (i := 98) rfl))) (ty := (.object "com/example/witnesseth/witnesseth/Heading$Kind")) (by decide)
  have F20_number : Fld Z h20 q "com/example/witnesseth/witnesseth/HeadingLine" "number" "Ljava/lang/String;" .null := D20 (Or.inr (hw _ (List.mem_of_getElem? (i := 100) rfl))) (ty := (.object "java/lang/String")) (by decide)
  have F20_value : Fld Z h20 q "com/example/witnesseth/witnesseth/HeadingLine" "value" "Ljava/util/List;" .null := D20 (Or.inr (hw _ (List.mem_of_getElem? (i := 102) rfl))) (ty := (.object "java/util/List")) (by decide)
  have F20_rest : Fld Z h20 q "com/example/witnesseth/witnesseth/HeadingLine" "rest" "Ljava/lang/String;" .null := D20 (Or.inr (hw _ (List.mem_of_getElem? (i := 104) rfl))) (ty := (.object "java/lang/String")) (by decide)
  have F20_carriesOn : Fld Z h20 q "com/example/witnesseth/witnesseth/HeadingLine" "carriesOn" "Z" (.int (0 : Int32)) := D20 (Or.inr (hw _ (List.mem_of_getElem? (i := 106) rfl))) (ty := .boolean) (by decide)
  have F20_form : Fld Z h20 q "com/example/witnesseth/witnesseth/HeadingLine" "form" "Lcom/example/witnesseth/witnesseth/HeadingLine$Form;" .null := D20 (Or.inr (hw _ (List.mem_of_getElem? (i := 108) rfl))) (ty := (.object "com/example/witnesseth/witnesseth/HeadingLine$Form")) (by decide)
  have hS := own_since0 s
  have hk : 0 ≤ h20.size := Nat.zero_le _
  obtain ⟨lit21, T21, h21, kk21, X21, e21, E21, hS, hk, hZ, hown, st21⟩ := ldcS (s := s) X20 hx hZ hown (hw _ (List.mem_of_getElem? (i := 77) rfl)) wS e20 hS hk (g := (mkF m 154 #[.val (.int p0), .val (.int p1), .val (.int p2), .val (.int p3), .val (.int (3 : Int32)), .val (.ref a), .val (.ref kd), .val (.int ((p3 >>> ((3 : Int32) &&& 31)) &&& (3 : Int32))), .val (.ref fo), .val (.int car), .unset, .unset, .unset, .unset, .unset] [(.ref kd), (.int p3), (.ref q), (.ref q)])) rfl (hb hby at_154) (n := 4) (by decide) (by decide) (by decide) (by decide)
  have f21_E_x1 := f20_E_x1.ext E21
  have f21_F_x1_value := f20_F_x1_value.ext E21
  have f21_E_x2 := f20_E_x2.ext E21
  have f21_F_x2_value := f20_F_x2_value.ext E21
  have f21_E_x3 := f20_E_x3.ext E21
  have f21_F_x3_value := f20_F_x3_value.ext E21
  have f21_L_a := f20_L_a.ext E21
  have f21_E_q := A20.ext E21
  have f21_F_q_line := F20_line.ext E21
  have f21_F_q_kind := F20_kind.ext E21
  have f21_F_q_number := F20_number.ext E21
  have f21_F_q_value := F20_value.ext E21
  have f21_F_q_rest := F20_rest.ext E21
  have f21_F_q_carriesOn := F20_carriesOn.ext E21
  have f21_F_q_form := F20_form.ext E21
  have O21 := O20.ext E21
  obtain ⟨lit22, T22, h22, kk22, X22, e22, E22, hS, hk, hZ, hown, st22⟩ := ldcS (s := s) X21 hx hZ hown (hw _ (List.mem_of_getElem? (i := 85) rfl)) wS e21 hS hk (g := (mkF m 158 #[.val (.int p0), .val (.int p1), .val (.int p2), .val (.int p3), .val (.int (3 : Int32)), .val (.ref a), .val (.ref kd), .val (.int ((p3 >>> ((3 : Int32) &&& 31)) &&& (3 : Int32))), .val (.ref fo), .val (.int car), .unset, .unset, .unset, .unset, .unset] [(.ref a), (.ref lit21), (.ref kd), (.int p3), (.ref q), (.ref q)])) rfl (hb hby at_158) (n := 0) (by decide) (by decide) (by decide) (by decide)
  have f22_E_x1 := f21_E_x1.ext E22
  have f22_F_x1_value := f21_F_x1_value.ext E22
  have f22_E_x2 := f21_E_x2.ext E22
  have f22_F_x2_value := f21_F_x2_value.ext E22
  have f22_E_x3 := f21_E_x3.ext E22
  have f22_F_x3_value := f21_F_x3_value.ext E22
  have f22_L_a := f21_L_a.ext E22
  have f22_E_q := f21_E_q.ext E22
  have f22_F_q_line := f21_F_q_line.ext E22
  have f22_F_q_kind := f21_F_q_kind.ext E22
  have f22_F_q_number := f21_F_q_number.ext E22
  have f22_F_q_value := f21_F_q_value.ext E22
  have f22_F_q_rest := f21_F_q_rest.ext E22
  have f22_F_q_carriesOn := f21_F_q_carriesOn.ext E22
  have f22_F_q_form := f21_F_q_form.ext E22
  have O22 := O21.ext E22
  obtain ⟨_, _, ⟨T23, L23, k23, n23⟩, -, X23, ⟨Lc23, hQ23, l23, y23, z23⟩, st23⟩ := X22.specialBack hx (y := (⟨"com/example/witnesseth/witnesseth/HeadingLine", "<init>", "(ILcom/example/witnesseth/witnesseth/Heading$Kind;Ljava/lang/String;Ljava/util/List;Ljava/lang/String;ZLcom/example/witnesseth/witnesseth/HeadingLine$Form;)V"⟩ : MethodName)) rfl hown (mvT hZ (hw _ (List.mem_of_getElem? (i := 86) rfl))) (mvT hZ (hw _ (List.mem_of_getElem? (i := 87) rfl))) (mvT hZ (hw _ (List.mem_of_getElem? (i := 88) rfl))) (by decide) (backOf (W := 1) (own_hi l Z a0 hw [] q p3 kd lit21 a lit22 car fo h22 n0 O22  f22_E_q f22_F_q_line f22_F_q_kind f22_F_q_number f22_F_q_value f22_F_q_rest f22_F_q_carriesOn f22_F_q_form g_q) hZ (hw _ (List.mem_of_getElem? (i := 88) rfl)) (hw _ (List.mem_of_getElem? (i := 76) rfl)) (by decide) (by decide)) (g := (mkF m 164 #[.val (.int p0), .val (.int p1), .val (.int p2), .val (.int p3), .val (.int (3 : Int32)), .val (.ref a), .val (.ref kd), .val (.int ((p3 >>> ((3 : Int32) &&& 31)) &&& (3 : Int32))), .val (.ref fo), .val (.int car), .unset, .unset, .unset, .unset, .unset] [(.ref fo), (.int car), (.ref lit22), (.ref a), (.ref lit21), (.ref kd), (.int p3), (.ref q), (.ref q)])) rfl (by rw [hml]; rfl) (Steps.refl _) (a := q) (argsL := [(.int p3), (.ref kd), (.ref lit21), (.ref a), (.ref lit22), (.int car), (.ref fo)]) (rest := [(.ref q)]) (lenOf own_pd11 rfl) rfl (by show 2 * 0 + _ ≤ _; exact Nat.le_of_eq rfl) (hb hby at_164) (fun _ _ => ⟨rfl, e22, (by decide : 10 + 0 ≤ _), (by decide : 35 + 0 ≤ _)⟩)
  dsimp only [Pt.U, Pt.locs, Pt.cells, Pt.slots] at X23 l23 y23 z23 st23 hQ23
  subst l23 y23 z23
  obtain ⟨rfl, N23q, O23, K23, p23_E_q, p23_F_q_kind, p23_F_q_value⟩ := hQ23
  have N23 := Fr.app N8 N23q
  have f23_E_x1 := f22_E_x1.keep K23
  have f23_F_x1_value := f22_F_x1_value.keep K23 (ninS ne_x1_q nin0)
  have f23_E_x2 := f22_E_x2.keep K23
  have f23_F_x2_value := f22_F_x2_value.keep K23 (ninS ne_x2_q nin0)
  have f23_E_x3 := f22_E_x3.keep K23
  have f23_F_x3_value := f22_F_x3_value.keep K23 (ninS ne_x3_q nin0)
  have f23_L_a := own_AL_keep f22_L_a K23 (ninS ne_a_q nin0) (ninS ne_ea_q nin0)
  have hk := Nat.le_trans hk K23.1
  obtain ⟨T24, art, hv24, ⟨X24, e24⟩, st24⟩ : ∃ (T' : State) (art : Int32), ((((p3 >>> ((6 : Int32) &&& 31)) &&& (1 : Int32)) = (0 : Int32) ∧ art = p1) ∨ (¬ (((p3 >>> ((6 : Int32) &&& 31)) &&& (1 : Int32)) = (0 : Int32)) ∧ art = p0)) ∧ own_Go X23 T23.heap T' ∧ ∀ target, Steps p.tables e below (T'.setTop (mkF m 183 #[.val (.int p0), .val (.int p1), .val (.int p2), .val (.int p3), .val (.int (3 : Int32)), .val (.ref a), .val (.ref kd), .val (.int ((p3 >>> ((3 : Int32) &&& 31)) &&& (3 : Int32))), .val (.ref fo), .val (.int car), .val (.ref q), .unset, .unset, .unset, .unset] [(.int art)])) target → Steps p.tables e below (T23.setTop (mkF m 175 #[.val (.int p0), .val (.int p1), .val (.int p2), .val (.int p3), .val (.int (3 : Int32)), .val (.ref a), .val (.ref kd), .val (.int ((p3 >>> ((3 : Int32) &&& 31)) &&& (3 : Int32))), .val (.ref fo), .val (.int car), .val (.ref q), .unset, .unset, .unset, .unset] [(.int ((p3 >>> ((6 : Int32) &&& 31)) &&& (1 : Int32)))])) target := by
    by_cases hf24 : ((p3 >>> ((6 : Int32) &&& 31)) &&& (1 : Int32)) = (0 : Int32)
    · refine ⟨T23, p1, Or.inl ⟨hf24, rfl⟩, ⟨X23, rfl⟩, fun target kgo_ => ?_⟩
      show Steps p.tables e below (T23.setTop (mkF m 175 #[.val (.int p0), .val (.int p1), .val (.int p2), .val (.int p3), .val (.int (3 : Int32)), .val (.ref a), .val (.ref kd), .val (.int ((p3 >>> ((3 : Int32) &&& 31)) &&& (3 : Int32))), .val (.ref fo), .val (.int car), .val (.ref q), .unset, .unset, .unset, .unset] [(.int ((p3 >>> ((6 : Int32) &&& 31)) &&& (1 : Int32)))])) _
      refine XS.ifYes X23.here hx rfl (pc0 := 175) (pc' := 182) rfl (hb hby at_175) rfl ((if0 _ _).trans (teq hf24).1) (by decide) (by decide) ?_
      show Steps p.tables e below (T23.setTop (mkF m 182 #[.val (.int p0), .val (.int p1), .val (.int p2), .val (.int p3), .val (.int (3 : Int32)), .val (.ref a), .val (.ref kd), .val (.int ((p3 >>> ((3 : Int32) &&& 31)) &&& (3 : Int32))), .val (.ref fo), .val (.int car), .val (.ref q), .unset, .unset, .unset, .unset] [])) _
      refine XS.iloadN X23.here hx rfl (hb hby at_182) rfl ?_
      show Steps p.tables e below (T23.setTop (mkF m 183 #[.val (.int p0), .val (.int p1), .val (.int p2), .val (.int p3), .val (.int (3 : Int32)), .val (.ref a), .val (.ref kd), .val (.int ((p3 >>> ((3 : Int32) &&& 31)) &&& (3 : Int32))), .val (.ref fo), .val (.int car), .val (.ref q), .unset, .unset, .unset, .unset] [(.int p1)])) _
      exact kgo_
    · refine ⟨T23, p0, Or.inr ⟨hf24, rfl⟩, ⟨X23, rfl⟩, fun target kgo_ => ?_⟩
      show Steps p.tables e below (T23.setTop (mkF m 175 #[.val (.int p0), .val (.int p1), .val (.int p2), .val (.int p3), .val (.int (3 : Int32)), .val (.ref a), .val (.ref kd), .val (.int ((p3 >>> ((3 : Int32) &&& 31)) &&& (3 : Int32))), .val (.ref fo), .val (.int car), .val (.ref q), .unset, .unset, .unset, .unset] [(.int ((p3 >>> ((6 : Int32) &&& 31)) &&& (1 : Int32)))])) _
      refine XS.ifNo X23.here hx rfl (hb hby at_175) rfl ((if0 _ _).trans (feq hf24).1) ?_
      show Steps p.tables e below (T23.setTop (mkF m 178 #[.val (.int p0), .val (.int p1), .val (.int p2), .val (.int p3), .val (.int (3 : Int32)), .val (.ref a), .val (.ref kd), .val (.int ((p3 >>> ((3 : Int32) &&& 31)) &&& (3 : Int32))), .val (.ref fo), .val (.int car), .val (.ref q), .unset, .unset, .unset, .unset] [])) _
      refine XS.iloadN X23.here hx rfl (hb hby at_178) rfl ?_
      show Steps p.tables e below (T23.setTop (mkF m 179 #[.val (.int p0), .val (.int p1), .val (.int p2), .val (.int p3), .val (.int (3 : Int32)), .val (.ref a), .val (.ref kd), .val (.int ((p3 >>> ((3 : Int32) &&& 31)) &&& (3 : Int32))), .val (.ref fo), .val (.int car), .val (.ref q), .unset, .unset, .unset, .unset] [(.int p0)])) _
      refine XS.goto X23.here hx rfl (pc0 := 179) (pc' := 183) rfl (hb hby at_179) (by decide) (by decide) ?_
      show Steps p.tables e below (T23.setTop (mkF m 183 #[.val (.int p0), .val (.int p1), .val (.int p2), .val (.int p3), .val (.int (3 : Int32)), .val (.ref a), .val (.ref kd), .val (.int ((p3 >>> ((3 : Int32) &&& 31)) &&& (3 : Int32))), .val (.ref fo), .val (.int car), .val (.ref q), .unset, .unset, .unset, .unset] [(.int p0)])) _
      exact kgo_
  obtain ⟨T25, h25, X25, e25, E25, A25, D25, -, st25⟩ := newO X24 hx hZ hown (hw _ (List.mem_of_getElem? (i := 0) rfl)) (hw _ (List.mem_of_getElem? (i := 1) rfl)) (hw _ (List.mem_of_getElem? (i := 2) rfl)) e24 (g := (mkF m 185 #[.val (.int p0), .val (.int p1), .val (.int p2), .val (.int p3), .val (.int (3 : Int32)), .val (.ref a), .val (.ref kd), .val (.int ((p3 >>> ((3 : Int32) &&& 31)) &&& (3 : Int32))), .val (.ref fo), .val (.int car), .val (.ref q), .val (.int art), .unset, .unset, .unset] [])) rfl (hb hby at_185) (by decide) (by decide)
  obtain ⟨a2, g25⟩ : ∃ z, z = T23.heap.size := ⟨_, rfl⟩
  have g_a2 : n0 ≤ a2 := Nat.le_trans (Nat.le_trans (Nat.le_of_eq O23.1.symm) O23.2.1) (Nat.le_of_eq g25.symm)
  have ne_x1_a2 : x1 ≠ a2 := Nat.ne_of_lt (Nat.lt_of_lt_of_le f23_E_x1.lt (Nat.le_of_eq g25.symm))
  have ne_x2_a2 : x2 ≠ a2 := Nat.ne_of_lt (Nat.lt_of_lt_of_le f23_E_x2.lt (Nat.le_of_eq g25.symm))
  have ne_x3_a2 : x3 ≠ a2 := Nat.ne_of_lt (Nat.lt_of_lt_of_le f23_E_x3.lt (Nat.le_of_eq g25.symm))
  have ne_a_a2 : a ≠ a2 := Nat.ne_of_lt (Nat.lt_of_lt_of_le f23_L_a.1.lt (Nat.le_of_eq g25.symm))
  have ne_ea_a2 : ea ≠ a2 := Nat.ne_of_lt (Nat.lt_of_lt_of_le (own_AL_lt f23_L_a) (Nat.le_of_eq g25.symm))
  have ne_q_a2 : q ≠ a2 := Nat.ne_of_lt (Nat.lt_of_lt_of_le p23_E_q.lt (Nat.le_of_eq g25.symm))
  rw [← g25] at A25 D25 st25
  have f25_E_x1 := f23_E_x1.ext E25
  have f25_F_x1_value := f23_F_x1_value.ext E25
  have f25_E_x2 := f23_E_x2.ext E25
  have f25_F_x2_value := f23_F_x2_value.ext E25
  have f25_E_x3 := f23_E_x3.ext E25
  have f25_F_x3_value := f23_F_x3_value.ext E25
  have f25_L_a := f23_L_a.ext E25
  have f25_E_q := p23_E_q.ext E25
  have f25_F_q_kind := p23_F_q_kind.ext E25
  have f25_F_q_value := p23_F_q_value.ext E25
  have hk := Nat.le_trans hk E25.1
  have O25 := O23.ext E25
  have F25_modCount : Fld Z h25 a2 "java/util/AbstractList" "modCount" "I" (.int (0 : Int32)) := D25 (Or.inl (hw _ (List.mem_of_getElem? (i := 22) rfl))) (ty := .int) (by decide)
  have F25_elementData : Fld Z h25 a2 "java/util/ArrayList" "elementData" "[Ljava/lang/Object;" .null := D25 (Or.inl (hw _ (List.mem_of_getElem? (i := 25) rfl))) (ty := (.array (.object "java/lang/Object"))) (by decide)
  have F25_size : Fld Z h25 a2 "java/util/ArrayList" "size" "I" (.int (0 : Int32)) := D25 (Or.inl (hw _ (List.mem_of_getElem? (i := 45) rfl))) (ty := .int) (by decide)
  obtain ⟨_, _, ⟨T26, L26, k26, n26⟩, -, X26, ⟨Lc26, hQ26, l26, y26, z26⟩, st26⟩ := X25.specialBack hx (y := (⟨"java/util/ArrayList", "<init>", "()V"⟩ : MethodName)) rfl hown (mvT hZ (hw _ (List.mem_of_getElem? (i := 3) rfl))) (mvT hZ (hw _ (List.mem_of_getElem? (i := 4) rfl))) (mvT hZ (hw _ (List.mem_of_getElem? (i := 5) rfl))) (by decide) (backOf (W := 1) (own_ali l Z a0 hw [] a2 D cD ich icc kA kS f0 f1 f2 f3 h25 n0 O25 K A25 F25_modCount F25_elementData F25_size g_a2) hZ (hw _ (List.mem_of_getElem? (i := 5) rfl)) (hw _ (List.mem_of_getElem? (i := 2) rfl)) (by decide) (by decide)) (g := (mkF m 189 #[.val (.int p0), .val (.int p1), .val (.int p2), .val (.int p3), .val (.int (3 : Int32)), .val (.ref a), .val (.ref kd), .val (.int ((p3 >>> ((3 : Int32) &&& 31)) &&& (3 : Int32))), .val (.ref fo), .val (.int car), .val (.ref q), .val (.int art), .unset, .unset, .unset] [(.ref a2), (.ref a2)])) rfl (by rw [hml]; rfl) (Steps.refl _) (a := a2) (argsL := []) (rest := [(.ref a2)]) (lenOf own_pd0 rfl) rfl (by show 2 * 0 + _ ≤ _; exact Nat.le_of_eq rfl) (hb hby at_189) (fun _ _ => ⟨rfl, e25, (by decide : 11 + 0 ≤ _), (by decide : 38 + 0 ≤ _)⟩)
  dsimp only [Pt.U, Pt.locs, Pt.cells, Pt.slots] at X26 l26 y26 z26 st26 hQ26
  subst l26 y26 z26
  obtain ⟨rfl, N26q, O26, K26, p26_E_a, p26_F_a_modCount, p26_F_a_elementData, p26_F_a_size⟩ := hQ26
  have N26 := Fr.app N23 N26q
  have f26_E_x1 := f25_E_x1.keep K26
  have f26_F_x1_value := f25_F_x1_value.keep K26 (ninS ne_x1_a2 nin0)
  have f26_E_x2 := f25_E_x2.keep K26
  have f26_F_x2_value := f25_F_x2_value.keep K26 (ninS ne_x2_a2 nin0)
  have f26_E_x3 := f25_E_x3.keep K26
  have f26_F_x3_value := f25_F_x3_value.keep K26 (ninS ne_x3_a2 nin0)
  have f26_L_a := own_AL_keep f25_L_a K26 (ninS ne_a_a2 nin0) (ninS ne_ea_a2 nin0)
  have f26_E_q := f25_E_q.keep K26
  have f26_F_q_kind := f25_F_q_kind.keep K26 (ninS ne_q_a2 nin0)
  have f26_F_q_value := f25_F_q_value.keep K26 (ninS ne_q_a2 nin0)
  have hk := Nat.le_trans hk K26.1
  obtain ⟨_, _, ⟨T27, L27, k27, n27⟩, -, X27, ⟨Lc27, hQ27, l27, y27, z27⟩, st27⟩ := Jvm.LawKit.callS X26 hx (y := (⟨"java/lang/Integer", "valueOf", "(I)Ljava/lang/Integer;"⟩ : MethodName)) hown (mvT hZ (hw _ (List.mem_of_getElem? (i := 26) rfl))) (mvT hZ (hw _ (List.mem_of_getElem? (i := 27) rfl))) (mvT hZ (hw _ (List.mem_of_getElem? (i := 28) rfl))) (mvT hZ (hw _ (List.mem_of_getElem? (i := 29) rfl))) (by decide) (backOf (W := 1) (own_val l Z a0 hw [] art D cD ich icc kA kS f0 f1 f2 f3 T26.heap n0 O26 K ) hZ (hw _ (List.mem_of_getElem? (i := 29) rfl)) (hw _ (List.mem_of_getElem? (i := 28) rfl)) (by decide) (by decide)) (g := (mkF m 198 #[.val (.int p0), .val (.int p1), .val (.int p2), .val (.int p3), .val (.int (3 : Int32)), .val (.ref a), .val (.ref kd), .val (.int ((p3 >>> ((3 : Int32) &&& 31)) &&& (3 : Int32))), .val (.ref fo), .val (.int car), .val (.ref q), .val (.int art), .val (.ref a2), .unset, .unset] [(.int art), (.ref a2)])) rfl (by rw [hml]; rfl) (argsL := [(.int art)]) (rest := [(.ref a2)]) (lenOf own_pd9 rfl) rfl (by show 2 * 0 + _ ≤ _; exact Nat.le_of_eq rfl) (hb hby at_198) (fun _ _ => ⟨rfl, rfl, (by decide : 11 + 1 ≤ _), (by decide : 38 + 1 ≤ _)⟩)
  dsimp only [Pt.U, Pt.locs, Pt.cells, Pt.slots] at X27 l27 y27 z27 st27 hQ27
  subst l27 y27 z27
  obtain ⟨x4, rfl, N27q, O27, K27, p27_E_r, p27_F_r_value⟩ := hQ27
  have N27 := Fr.app N26 N27q
  have f27_E_x1 := f26_E_x1.keep K27
  have f27_F_x1_value := f26_F_x1_value.keep K27 nin0
  have f27_E_x2 := f26_E_x2.keep K27
  have f27_F_x2_value := f26_F_x2_value.keep K27 nin0
  have f27_E_x3 := f26_E_x3.keep K27
  have f27_F_x3_value := f26_F_x3_value.keep K27 nin0
  have f27_L_a := own_AL_keep f26_L_a K27 nin0 nin0
  have f27_E_q := f26_E_q.keep K27
  have f27_F_q_kind := f26_F_q_kind.keep K27 nin0
  have f27_F_q_value := f26_F_q_value.keep K27 nin0
  have f27_E_a2 := p26_E_a.keep K27
  have f27_F_a2_modCount := p26_F_a_modCount.keep K27 nin0
  have f27_F_a2_elementData := p26_F_a_elementData.keep K27 nin0
  have f27_F_a2_size := p26_F_a_size.keep K27 nin0
  have hk := Nat.le_trans hk K27.1
  have ne_x4_a : x4 ≠ a := ne_exa p27_E_r f27_L_a.1 (by decide)
  have ne_x4_ea : x4 ≠ ea := own_neEA p27_E_r (hw _ (List.mem_of_getElem? (i := 156) rfl)) f27_L_a
  have ne_x4_q : x4 ≠ q := ne_exa p27_E_r f27_E_q (by decide)
  have ne_x4_a2 : x4 ≠ a2 := ne_exa p27_E_r f27_E_a2 (by decide)
  obtain ⟨cq28, kq28, q28a, q28b, q28c⟩ := isOf hZ rfl f27_E_a2
  obtain ⟨_, _, ⟨T28, L28, k28, n28⟩, -, X28, ⟨Lc28, hQ28, l28, y28, z28⟩, st28⟩ := X27.interfaceBack hx (xi := (⟨"java/util/List", "add", "(Ljava/lang/Object;)Z"⟩ : MethodName)) (y := (⟨"java/util/ArrayList", "add", "(Ljava/lang/Object;)Z"⟩ : MethodName)) hown (mvT hZ (hw _ (List.mem_of_getElem? (i := 33) rfl))) (mvT hZ (hw _ (List.mem_of_getElem? (i := 34) rfl))) (mvT hZ (hw _ (List.mem_of_getElem? (i := 35) rfl))) (mvT hZ (hw _ (List.mem_of_getElem? (i := 36) rfl))) (mvT hZ (hw _ (List.mem_of_getElem? (i := 37) rfl))) (mvT hZ (hw _ (List.mem_of_getElem? (i := 38) rfl))) (mvT hZ (hw _ (List.mem_of_getElem? (i := 39) rfl))) (mvT hZ (hw _ (List.mem_of_getElem? (i := 40) rfl))) (by decide) (backOf (W := 0) (own_add l Z a0 hw [] a2 x4 D cD ich icc kA kS f0 f1 f2 f3 T27.heap n0 O27 K f27_E_a2 f27_F_a2_modCount f27_F_a2_elementData f27_F_a2_size g_a2 (Ins.of_exa p27_E_r (hw _ (List.mem_of_getElem? (i := 67) rfl)))) hZ (hw _ (List.mem_of_getElem? (i := 41) rfl)) (hw _ (List.mem_of_getElem? (i := 2) rfl)) (by decide) (by decide)) q28a q28b q28c (g := (mkF m 201 #[.val (.int p0), .val (.int p1), .val (.int p2), .val (.int p3), .val (.int (3 : Int32)), .val (.ref a), .val (.ref kd), .val (.int ((p3 >>> ((3 : Int32) &&& 31)) &&& (3 : Int32))), .val (.ref fo), .val (.int car), .val (.ref q), .val (.int art), .val (.ref a2), .unset, .unset] [(.ref x4), (.ref a2)])) rfl (by rw [hml]; rfl) (Steps.refl _) (argsL := [(.ref x4)]) (rest := []) (lenOf own_pd10 rfl) rfl (by show 2 * 0 + _ ≤ _; exact Nat.le_of_eq rfl) (hb hby at_201) (fun _ _ => ⟨rfl, rfl, (by decide : 12 + 1 ≤ _), (by decide : 39 + 10 ≤ _)⟩)
  dsimp only [Pt.U, Pt.locs, Pt.cells, Pt.slots] at X28 l28 y28 z28 st28 hQ28
  subst l28 y28 z28
  obtain ⟨ea2, rfl, N28q, O28, K28, p28_L_a, p28_fresh_ea⟩ := hQ28
  have N28 := Fr.app N27 N28q
  have ne_x1_ea2 : x1 ≠ ea2 := Nat.ne_of_lt (Nat.lt_of_lt_of_le f27_E_x1.lt p28_fresh_ea)
  have ne_x2_ea2 : x2 ≠ ea2 := Nat.ne_of_lt (Nat.lt_of_lt_of_le f27_E_x2.lt p28_fresh_ea)
  have ne_x3_ea2 : x3 ≠ ea2 := Nat.ne_of_lt (Nat.lt_of_lt_of_le f27_E_x3.lt p28_fresh_ea)
  have ne_a_ea2 : a ≠ ea2 := Nat.ne_of_lt (Nat.lt_of_lt_of_le f27_L_a.1.lt p28_fresh_ea)
  have ne_ea_ea2 : ea ≠ ea2 := Nat.ne_of_lt (Nat.lt_of_lt_of_le (own_AL_lt f27_L_a) p28_fresh_ea)
  have ne_q_ea2 : q ≠ ea2 := Nat.ne_of_lt (Nat.lt_of_lt_of_le f27_E_q.lt p28_fresh_ea)
  have ne_a2_ea2 : a2 ≠ ea2 := Nat.ne_of_lt (Nat.lt_of_lt_of_le f27_E_a2.lt p28_fresh_ea)
  have ne_x4_ea2 : x4 ≠ ea2 := Nat.ne_of_lt (Nat.lt_of_lt_of_le p27_E_r.lt p28_fresh_ea)
  have g_ea2 : n0 ≤ ea2 := Nat.le_trans (Nat.le_trans (Nat.le_of_eq O27.1.symm) O27.2.1) p28_fresh_ea
  have f28_E_x1 := f27_E_x1.keep K28
  have f28_F_x1_value := f27_F_x1_value.keep K28 (ninS ne_x1_a2 nin0)
  have f28_E_x2 := f27_E_x2.keep K28
  have f28_F_x2_value := f27_F_x2_value.keep K28 (ninS ne_x2_a2 nin0)
  have f28_E_x3 := f27_E_x3.keep K28
  have f28_F_x3_value := f27_F_x3_value.keep K28 (ninS ne_x3_a2 nin0)
  have f28_L_a := own_AL_keep f27_L_a K28 (ninS ne_a_a2 nin0) (ninS ne_ea_a2 nin0)
  have f28_E_q := f27_E_q.keep K28
  have f28_F_q_kind := f27_F_q_kind.keep K28 (ninS ne_q_a2 nin0)
  have f28_F_q_value := f27_F_q_value.keep K28 (ninS ne_q_a2 nin0)
  have f28_E_x4 := p27_E_r.keep K28
  have f28_F_x4_value := p27_F_r_value.keep K28 (ninS ne_x4_a2 nin0)
  have hk := Nat.le_trans hk K28.1
  obtain ⟨T29, h29, X29, e29, E29, A29, D29, -, st29⟩ := newO X28 hx hZ hown (hw _ (List.mem_of_getElem? (i := 74) rfl)) (hw _ (List.mem_of_getElem? (i := 75) rfl)) (hw _ (List.mem_of_getElem? (i := 76) rfl)) rfl (g := (mkF m 207 #[.val (.int p0), .val (.int p1), .val (.int p2), .val (.int p3), .val (.int (3 : Int32)), .val (.ref a), .val (.ref kd), .val (.int ((p3 >>> ((3 : Int32) &&& 31)) &&& (3 : Int32))), .val (.ref fo), .val (.int car), .val (.ref q), .val (.int art), .val (.ref a2), .unset, .unset] [])) rfl (hb hby at_207) (by decide) (by decide)
  obtain ⟨q2, g29⟩ : ∃ z, z = T28.heap.size := ⟨_, rfl⟩
  have g_q2 : n0 ≤ q2 := Nat.le_trans (Nat.le_trans (Nat.le_of_eq O28.1.symm) O28.2.1) (Nat.le_of_eq g29.symm)
  have ne_x1_q2 : x1 ≠ q2 := Nat.ne_of_lt (Nat.lt_of_lt_of_le f28_E_x1.lt (Nat.le_of_eq g29.symm))
  have ne_x2_q2 : x2 ≠ q2 := Nat.ne_of_lt (Nat.lt_of_lt_of_le f28_E_x2.lt (Nat.le_of_eq g29.symm))
  have ne_x3_q2 : x3 ≠ q2 := Nat.ne_of_lt (Nat.lt_of_lt_of_le f28_E_x3.lt (Nat.le_of_eq g29.symm))
  have ne_a_q2 : a ≠ q2 := Nat.ne_of_lt (Nat.lt_of_lt_of_le f28_L_a.1.lt (Nat.le_of_eq g29.symm))
  have ne_ea_q2 : ea ≠ q2 := Nat.ne_of_lt (Nat.lt_of_lt_of_le (own_AL_lt f28_L_a) (Nat.le_of_eq g29.symm))
  have ne_q_q2 : q ≠ q2 := Nat.ne_of_lt (Nat.lt_of_lt_of_le f28_E_q.lt (Nat.le_of_eq g29.symm))
  have ne_x4_q2 : x4 ≠ q2 := Nat.ne_of_lt (Nat.lt_of_lt_of_le f28_E_x4.lt (Nat.le_of_eq g29.symm))
  have ne_a2_q2 : a2 ≠ q2 := Nat.ne_of_lt (Nat.lt_of_lt_of_le p28_L_a.1.lt (Nat.le_of_eq g29.symm))
  have ne_ea2_q2 : ea2 ≠ q2 := Nat.ne_of_lt (Nat.lt_of_lt_of_le (own_AL_lt p28_L_a) (Nat.le_of_eq g29.symm))
  rw [← g29] at A29 D29 st29
  have f29_E_x1 := f28_E_x1.ext E29
  have f29_F_x1_value := f28_F_x1_value.ext E29
  have f29_E_x2 := f28_E_x2.ext E29
  have f29_F_x2_value := f28_F_x2_value.ext E29
  have f29_E_x3 := f28_E_x3.ext E29
  have f29_F_x3_value := f28_F_x3_value.ext E29
  have f29_L_a := f28_L_a.ext E29
  have f29_E_q := f28_E_q.ext E29
  have f29_F_q_kind := f28_F_q_kind.ext E29
  have f29_F_q_value := f28_F_q_value.ext E29
  have f29_E_x4 := f28_E_x4.ext E29
  have f29_F_x4_value := f28_F_x4_value.ext E29
  have f29_L_a2 := p28_L_a.ext E29
  have hk := Nat.le_trans hk E29.1
  have O29 := O28.ext E29
  have F29_line : Fld Z h29 q2 "com/example/witnesseth/witnesseth/HeadingLine" "line" "I" (.int (0 : Int32)) := D29 (Or.inr (hw _ (List.mem_of_getElem? (i := 96) rfl))) (ty := .int) (by decide)
  have F29_kind : Fld Z h29 q2 "com/example/witnesseth/witnesseth/HeadingLine" "kind" "Lcom/example/witnesseth/witnesseth/Heading$Kind;" .null := D29 (Or.inr (hw _ (List.mem_of_getElem? (i := 98) rfl))) (ty := (.object "com/example/witnesseth/witnesseth/Heading$Kind")) (by decide)
  have F29_number : Fld Z h29 q2 "com/example/witnesseth/witnesseth/HeadingLine" "number" "Ljava/lang/String;" .null := D29 (Or.inr (hw _ (List.mem_of_getElem? (i := 100) rfl))) (ty := (.object "java/lang/String")) (by decide)
  have F29_value : Fld Z h29 q2 "com/example/witnesseth/witnesseth/HeadingLine" "value" "Ljava/util/List;" .null := D29 (Or.inr (hw _ (List.mem_of_getElem? (i := 102) rfl))) (ty := (.object "java/util/List")) (by decide)
  have F29_rest : Fld Z h29 q2 "com/example/witnesseth/witnesseth/HeadingLine" "rest" "Ljava/lang/String;" .null := D29 (Or.inr (hw _ (List.mem_of_getElem? (i := 104) rfl))) (ty := (.object "java/lang/String")) (by decide)
  have F29_carriesOn : Fld Z h29 q2 "com/example/witnesseth/witnesseth/HeadingLine" "carriesOn" "Z" (.int (0 : Int32)) := D29 (Or.inr (hw _ (List.mem_of_getElem? (i := 106) rfl))) (ty := .boolean) (by decide)
  have F29_form : Fld Z h29 q2 "com/example/witnesseth/witnesseth/HeadingLine" "form" "Lcom/example/witnesseth/witnesseth/HeadingLine$Form;" .null := D29 (Or.inr (hw _ (List.mem_of_getElem? (i := 108) rfl))) (ty := (.object "com/example/witnesseth/witnesseth/HeadingLine$Form")) (by decide)
  obtain ⟨T30, X30, e30, st30⟩ := getS2 X29 hx hZ hown (host := "") (Or.inl (hw _ (List.mem_of_getElem? (i := 68) rfl))) Via.refl e29 (SA.ext O29.2) (g := (mkF m 212 #[.val (.int p0), .val (.int p1), .val (.int p2), .val (.int p3), .val (.int (3 : Int32)), .val (.ref a), .val (.ref kd), .val (.int ((p3 >>> ((3 : Int32) &&& 31)) &&& (3 : Int32))), .val (.ref fo), .val (.int car), .val (.ref q), .val (.int art), .val (.ref a2), .unset, .unset] [(.int (1 : Int32)), (.ref q2), (.ref q2)])) rfl (hb hby at_212)
  obtain ⟨lit31, T31, h31, kk31, X31, e31, E31, hS, hk, hZ, hown, st31⟩ := ldcS (s := s) X30 hx hZ hown (hw _ (List.mem_of_getElem? (i := 77) rfl)) wS e30 hS hk (g := (mkF m 215 #[.val (.int p0), .val (.int p1), .val (.int p2), .val (.int p3), .val (.int (3 : Int32)), .val (.ref a), .val (.ref kd), .val (.int ((p3 >>> ((3 : Int32) &&& 31)) &&& (3 : Int32))), .val (.ref fo), .val (.int car), .val (.ref q), .val (.int art), .val (.ref a2), .unset, .unset] [(.ref kA), (.int (1 : Int32)), (.ref q2), (.ref q2)])) rfl (hb hby at_215) (n := 4) (by decide) (by decide) (by decide) (by decide)
  have f31_E_x1 := f29_E_x1.ext E31
  have f31_F_x1_value := f29_F_x1_value.ext E31
  have f31_E_x2 := f29_E_x2.ext E31
  have f31_F_x2_value := f29_F_x2_value.ext E31
  have f31_E_x3 := f29_E_x3.ext E31
  have f31_F_x3_value := f29_F_x3_value.ext E31
  have f31_L_a := f29_L_a.ext E31
  have f31_E_q := f29_E_q.ext E31
  have f31_F_q_kind := f29_F_q_kind.ext E31
  have f31_F_q_value := f29_F_q_value.ext E31
  have f31_E_x4 := f29_E_x4.ext E31
  have f31_F_x4_value := f29_F_x4_value.ext E31
  have f31_L_a2 := f29_L_a2.ext E31
  have f31_E_q2 := A29.ext E31
  have f31_F_q2_line := F29_line.ext E31
  have f31_F_q2_kind := F29_kind.ext E31
  have f31_F_q2_number := F29_number.ext E31
  have f31_F_q2_value := F29_value.ext E31
  have f31_F_q2_rest := F29_rest.ext E31
  have f31_F_q2_carriesOn := F29_carriesOn.ext E31
  have f31_F_q2_form := F29_form.ext E31
  have O31 := O29.ext E31
  obtain ⟨lit32, T32, h32, kk32, X32, e32, E32, hS, hk, hZ, hown, st32⟩ := ldcS (s := s) X31 hx hZ hown (hw _ (List.mem_of_getElem? (i := 85) rfl)) wS e31 hS hk (g := (mkF m 219 #[.val (.int p0), .val (.int p1), .val (.int p2), .val (.int p3), .val (.int (3 : Int32)), .val (.ref a), .val (.ref kd), .val (.int ((p3 >>> ((3 : Int32) &&& 31)) &&& (3 : Int32))), .val (.ref fo), .val (.int car), .val (.ref q), .val (.int art), .val (.ref a2), .unset, .unset] [(.ref a2), (.ref lit31), (.ref kA), (.int (1 : Int32)), (.ref q2), (.ref q2)])) rfl (hb hby at_219) (n := 0) (by decide) (by decide) (by decide) (by decide)
  have f32_E_x1 := f31_E_x1.ext E32
  have f32_F_x1_value := f31_F_x1_value.ext E32
  have f32_E_x2 := f31_E_x2.ext E32
  have f32_F_x2_value := f31_F_x2_value.ext E32
  have f32_E_x3 := f31_E_x3.ext E32
  have f32_F_x3_value := f31_F_x3_value.ext E32
  have f32_L_a := f31_L_a.ext E32
  have f32_E_q := f31_E_q.ext E32
  have f32_F_q_kind := f31_F_q_kind.ext E32
  have f32_F_q_value := f31_F_q_value.ext E32
  have f32_E_x4 := f31_E_x4.ext E32
  have f32_F_x4_value := f31_F_x4_value.ext E32
  have f32_L_a2 := f31_L_a2.ext E32
  have f32_E_q2 := f31_E_q2.ext E32
  have f32_F_q2_line := f31_F_q2_line.ext E32
  have f32_F_q2_kind := f31_F_q2_kind.ext E32
  have f32_F_q2_number := f31_F_q2_number.ext E32
  have f32_F_q2_value := f31_F_q2_value.ext E32
  have f32_F_q2_rest := f31_F_q2_rest.ext E32
  have f32_F_q2_carriesOn := f31_F_q2_carriesOn.ext E32
  have f32_F_q2_form := f31_F_q2_form.ext E32
  have O32 := O31.ext E32
  obtain ⟨T33, X33, e33, st33⟩ := getS2 X32 hx hZ hown (host := "") (Or.inl (hw _ (List.mem_of_getElem? (i := 71) rfl))) Via.refl e32 (S0.ext O32.2) (g := (mkF m 222 #[.val (.int p0), .val (.int p1), .val (.int p2), .val (.int p3), .val (.int (3 : Int32)), .val (.ref a), .val (.ref kd), .val (.int ((p3 >>> ((3 : Int32) &&& 31)) &&& (3 : Int32))), .val (.ref fo), .val (.int car), .val (.ref q), .val (.int art), .val (.ref a2), .unset, .unset] [(.int (0 : Int32)), (.ref lit32), (.ref a2), (.ref lit31), (.ref kA), (.int (1 : Int32)), (.ref q2), (.ref q2)])) rfl (hb hby at_222)
  obtain ⟨_, _, ⟨T34, L34, k34, n34⟩, -, X34, ⟨Lc34, hQ34, l34, y34, z34⟩, st34⟩ := X33.specialBack hx (y := (⟨"com/example/witnesseth/witnesseth/HeadingLine", "<init>", "(ILcom/example/witnesseth/witnesseth/Heading$Kind;Ljava/lang/String;Ljava/util/List;Ljava/lang/String;ZLcom/example/witnesseth/witnesseth/HeadingLine$Form;)V"⟩ : MethodName)) rfl hown (mvT hZ (hw _ (List.mem_of_getElem? (i := 86) rfl))) (mvT hZ (hw _ (List.mem_of_getElem? (i := 87) rfl))) (mvT hZ (hw _ (List.mem_of_getElem? (i := 88) rfl))) (by decide) (backOf (W := 1) (own_hi l Z a0 hw [] q2 (1 : Int32) kA lit31 a2 lit32 (0 : Int32) f0 h32 n0 O32  f32_E_q2 f32_F_q2_line f32_F_q2_kind f32_F_q2_number f32_F_q2_value f32_F_q2_rest f32_F_q2_carriesOn f32_F_q2_form g_q2) hZ (hw _ (List.mem_of_getElem? (i := 88) rfl)) (hw _ (List.mem_of_getElem? (i := 76) rfl)) (by decide) (by decide)) (g := (mkF m 225 #[.val (.int p0), .val (.int p1), .val (.int p2), .val (.int p3), .val (.int (3 : Int32)), .val (.ref a), .val (.ref kd), .val (.int ((p3 >>> ((3 : Int32) &&& 31)) &&& (3 : Int32))), .val (.ref fo), .val (.int car), .val (.ref q), .val (.int art), .val (.ref a2), .unset, .unset] [(.ref f0), (.int (0 : Int32)), (.ref lit32), (.ref a2), (.ref lit31), (.ref kA), (.int (1 : Int32)), (.ref q2), (.ref q2)])) rfl (by rw [hml]; rfl) (Steps.refl _) (a := q2) (argsL := [(.int (1 : Int32)), (.ref kA), (.ref lit31), (.ref a2), (.ref lit32), (.int (0 : Int32)), (.ref f0)]) (rest := [(.ref q2)]) (lenOf own_pd11 rfl) rfl (by show 2 * 0 + _ ≤ _; exact Nat.le_of_eq rfl) (hb hby at_225) (fun _ _ => ⟨rfl, e33, (by decide : 18 + 0 ≤ _), (by decide : 68 + 0 ≤ _)⟩)
  dsimp only [Pt.U, Pt.locs, Pt.cells, Pt.slots] at X34 l34 y34 z34 st34 hQ34
  subst l34 y34 z34
  obtain ⟨rfl, N34q, O34, K34, p34_E_q, p34_F_q_kind, p34_F_q_value⟩ := hQ34
  have N34 := Fr.app N28 N34q
  have f34_E_x1 := f32_E_x1.keep K34
  have f34_F_x1_value := f32_F_x1_value.keep K34 (ninS ne_x1_q2 nin0)
  have f34_E_x2 := f32_E_x2.keep K34
  have f34_F_x2_value := f32_F_x2_value.keep K34 (ninS ne_x2_q2 nin0)
  have f34_E_x3 := f32_E_x3.keep K34
  have f34_F_x3_value := f32_F_x3_value.keep K34 (ninS ne_x3_q2 nin0)
  have f34_L_a := own_AL_keep f32_L_a K34 (ninS ne_a_q2 nin0) (ninS ne_ea_q2 nin0)
  have f34_E_q := f32_E_q.keep K34
  have f34_F_q_kind := f32_F_q_kind.keep K34 (ninS ne_q_q2 nin0)
  have f34_F_q_value := f32_F_q_value.keep K34 (ninS ne_q_q2 nin0)
  have f34_E_x4 := f32_E_x4.keep K34
  have f34_F_x4_value := f32_F_x4_value.keep K34 (ninS ne_x4_q2 nin0)
  have f34_L_a2 := own_AL_keep f32_L_a2 K34 (ninS ne_a2_q2 nin0) (ninS ne_ea2_q2 nin0)
  have hk := Nat.le_trans hk K34.1
  obtain ⟨T35, X35, e35, st35⟩ := getS2 X34 hx hZ hown (host := "") (Or.inl (hw _ (List.mem_of_getElem? (i := 109) rfl))) Via.refl rfl (SS.ext O34.2) (g := (mkF m 232 #[.val (.int p0), .val (.int p1), .val (.int p2), .val (.int p3), .val (.int (3 : Int32)), .val (.ref a), .val (.ref kd), .val (.int ((p3 >>> ((3 : Int32) &&& 31)) &&& (3 : Int32))), .val (.ref fo), .val (.int car), .val (.ref q), .val (.int art), .val (.ref a2), .val (.ref q2), .unset] [(.ref kd)])) rfl (hb hby at_232)
  obtain ⟨T36, eh, hv36, ⟨X36, e36⟩, st36⟩ : ∃ (T' : State) (eh : Int32), ((kd = kS ∧ ((art = p0 ∧ eh = (1 : Int32)) ∨ (¬ (art = p0) ∧ eh = (0 : Int32)))) ∨ (¬ (kd = kS) ∧ eh = (0 : Int32))) ∧ own_Go X35 T34.heap T' ∧ ∀ target, Steps p.tables e below (T'.setTop (mkF m 249 #[.val (.int p0), .val (.int p1), .val (.int p2), .val (.int p3), .val (.int (3 : Int32)), .val (.ref a), .val (.ref kd), .val (.int ((p3 >>> ((3 : Int32) &&& 31)) &&& (3 : Int32))), .val (.ref fo), .val (.int car), .val (.ref q), .val (.int art), .val (.ref a2), .val (.ref q2), .unset] [(.int eh)])) target → Steps p.tables e below (T35.setTop (mkF m 235 #[.val (.int p0), .val (.int p1), .val (.int p2), .val (.int p3), .val (.int (3 : Int32)), .val (.ref a), .val (.ref kd), .val (.int ((p3 >>> ((3 : Int32) &&& 31)) &&& (3 : Int32))), .val (.ref fo), .val (.int car), .val (.ref q), .val (.int art), .val (.ref a2), .val (.ref q2), .unset] [(.ref kS), (.ref kd)])) target := by
    by_cases hf36 : kd = kS
    · obtain ⟨T37, w37_0, hv37, ⟨X37, e37⟩, st37⟩ : ∃ (T' : State) (w37_0 : Int32), ((art = p0 ∧ w37_0 = (1 : Int32)) ∨ (¬ (art = p0) ∧ w37_0 = (0 : Int32))) ∧ own_Go X35 T34.heap T' ∧ ∀ target, Steps p.tables e below (T'.setTop (mkF m 249 #[.val (.int p0), .val (.int p1), .val (.int p2), .val (.int p3), .val (.int (3 : Int32)), .val (.ref a), .val (.ref kd), .val (.int ((p3 >>> ((3 : Int32) &&& 31)) &&& (3 : Int32))), .val (.ref fo), .val (.int car), .val (.ref q), .val (.int art), .val (.ref a2), .val (.ref q2), .unset] [(.int w37_0)])) target → Steps p.tables e below (T35.setTop (mkF m 241 #[.val (.int p0), .val (.int p1), .val (.int p2), .val (.int p3), .val (.int (3 : Int32)), .val (.ref a), .val (.ref kd), .val (.int ((p3 >>> ((3 : Int32) &&& 31)) &&& (3 : Int32))), .val (.ref fo), .val (.int car), .val (.ref q), .val (.int art), .val (.ref a2), .val (.ref q2), .unset] [(.int p0), (.int art)])) target := by
        by_cases hf37 : art = p0
        · refine ⟨T35, (1 : Int32), Or.inl ⟨hf37, rfl⟩, ⟨X35, e35⟩, fun target kgo_ => ?_⟩
          show Steps p.tables e below (T35.setTop (mkF m 241 #[.val (.int p0), .val (.int p1), .val (.int p2), .val (.int p3), .val (.int (3 : Int32)), .val (.ref a), .val (.ref kd), .val (.int ((p3 >>> ((3 : Int32) &&& 31)) &&& (3 : Int32))), .val (.ref fo), .val (.int car), .val (.ref q), .val (.int art), .val (.ref a2), .val (.ref q2), .unset] [(.int p0), (.int art)])) _
          refine XS.icmpNo X35.here hx rfl (hb hby at_241) rfl (teq hf37).2 ?_
          show Steps p.tables e below (T35.setTop (mkF m 244 #[.val (.int p0), .val (.int p1), .val (.int p2), .val (.int p3), .val (.int (3 : Int32)), .val (.ref a), .val (.ref kd), .val (.int ((p3 >>> ((3 : Int32) &&& 31)) &&& (3 : Int32))), .val (.ref fo), .val (.int car), .val (.ref q), .val (.int art), .val (.ref a2), .val (.ref q2), .unset] [])) _
          refine XS.iconst X35.here hx rfl (hb hby at_244) ?_
          show Steps p.tables e below (T35.setTop (mkF m 245 #[.val (.int p0), .val (.int p1), .val (.int p2), .val (.int p3), .val (.int (3 : Int32)), .val (.ref a), .val (.ref kd), .val (.int ((p3 >>> ((3 : Int32) &&& 31)) &&& (3 : Int32))), .val (.ref fo), .val (.int car), .val (.ref q), .val (.int art), .val (.ref a2), .val (.ref q2), .unset] [(.int (1 : Int32))])) _
          refine XS.goto X35.here hx rfl (pc0 := 245) (pc' := 249) rfl (hb hby at_245) (by decide) (by decide) ?_
          show Steps p.tables e below (T35.setTop (mkF m 249 #[.val (.int p0), .val (.int p1), .val (.int p2), .val (.int p3), .val (.int (3 : Int32)), .val (.ref a), .val (.ref kd), .val (.int ((p3 >>> ((3 : Int32) &&& 31)) &&& (3 : Int32))), .val (.ref fo), .val (.int car), .val (.ref q), .val (.int art), .val (.ref a2), .val (.ref q2), .unset] [(.int (1 : Int32))])) _
          exact kgo_
        · refine ⟨T35, (0 : Int32), Or.inr ⟨hf37, rfl⟩, ⟨X35, e35⟩, fun target kgo_ => ?_⟩
          show Steps p.tables e below (T35.setTop (mkF m 241 #[.val (.int p0), .val (.int p1), .val (.int p2), .val (.int p3), .val (.int (3 : Int32)), .val (.ref a), .val (.ref kd), .val (.int ((p3 >>> ((3 : Int32) &&& 31)) &&& (3 : Int32))), .val (.ref fo), .val (.int car), .val (.ref q), .val (.int art), .val (.ref a2), .val (.ref q2), .unset] [(.int p0), (.int art)])) _
          refine XS.icmpYes X35.here hx rfl (pc0 := 241) (pc' := 248) rfl (hb hby at_241) rfl (feq hf37).2 (by decide) (by decide) ?_
          show Steps p.tables e below (T35.setTop (mkF m 248 #[.val (.int p0), .val (.int p1), .val (.int p2), .val (.int p3), .val (.int (3 : Int32)), .val (.ref a), .val (.ref kd), .val (.int ((p3 >>> ((3 : Int32) &&& 31)) &&& (3 : Int32))), .val (.ref fo), .val (.int car), .val (.ref q), .val (.int art), .val (.ref a2), .val (.ref q2), .unset] [])) _
          refine XS.iconst X35.here hx rfl (hb hby at_248) ?_
          show Steps p.tables e below (T35.setTop (mkF m 249 #[.val (.int p0), .val (.int p1), .val (.int p2), .val (.int p3), .val (.int (3 : Int32)), .val (.ref a), .val (.ref kd), .val (.int ((p3 >>> ((3 : Int32) &&& 31)) &&& (3 : Int32))), .val (.ref fo), .val (.int car), .val (.ref q), .val (.int art), .val (.ref a2), .val (.ref q2), .unset] [(.int (0 : Int32))])) _
          exact kgo_
      refine ⟨T37, w37_0, Or.inl ⟨hf36, hv37⟩, ⟨X37, e37⟩, fun target kgo_ => ?_⟩
      show Steps p.tables e below (T35.setTop (mkF m 235 #[.val (.int p0), .val (.int p1), .val (.int p2), .val (.int p3), .val (.int (3 : Int32)), .val (.ref a), .val (.ref kd), .val (.int ((p3 >>> ((3 : Int32) &&& 31)) &&& (3 : Int32))), .val (.ref fo), .val (.int car), .val (.ref q), .val (.int art), .val (.ref a2), .val (.ref q2), .unset] [(.ref kS), (.ref kd)])) _
      refine Jvm.RoadKit.acmp (g := (mkF m 235 #[.val (.int p0), .val (.int p1), .val (.int p2), .val (.int p3), .val (.int (3 : Int32)), .val (.ref a), .val (.ref kd), .val (.int ((p3 >>> ((3 : Int32) &&& 31)) &&& (3 : Int32))), .val (.ref fo), .val (.int car), .val (.ref q), .val (.int art), .val (.ref a2), .val (.ref q2), .unset] [(.ref kS), (.ref kd)])) X35 hx rfl rfl rfl (pc0 := 235) (pc' := 238) (same := true) rfl (hb hby at_235) rfl (decide_eq_true (congrArg Value.ref hf36)) (by decide) (by decide) ?_
      show Steps p.tables e below (T35.setTop (mkF m 238 #[.val (.int p0), .val (.int p1), .val (.int p2), .val (.int p3), .val (.int (3 : Int32)), .val (.ref a), .val (.ref kd), .val (.int ((p3 >>> ((3 : Int32) &&& 31)) &&& (3 : Int32))), .val (.ref fo), .val (.int car), .val (.ref q), .val (.int art), .val (.ref a2), .val (.ref q2), .unset] [])) _
      refine XS.iload X35.here hx rfl (hb hby at_238) rfl ?_
      show Steps p.tables e below (T35.setTop (mkF m 240 #[.val (.int p0), .val (.int p1), .val (.int p2), .val (.int p3), .val (.int (3 : Int32)), .val (.ref a), .val (.ref kd), .val (.int ((p3 >>> ((3 : Int32) &&& 31)) &&& (3 : Int32))), .val (.ref fo), .val (.int car), .val (.ref q), .val (.int art), .val (.ref a2), .val (.ref q2), .unset] [(.int art)])) _
      refine XS.iloadN X35.here hx rfl (hb hby at_240) rfl ?_
      refine st37 _ ?_
      show Steps p.tables e below (T37.setTop (mkF m 249 #[.val (.int p0), .val (.int p1), .val (.int p2), .val (.int p3), .val (.int (3 : Int32)), .val (.ref a), .val (.ref kd), .val (.int ((p3 >>> ((3 : Int32) &&& 31)) &&& (3 : Int32))), .val (.ref fo), .val (.int car), .val (.ref q), .val (.int art), .val (.ref a2), .val (.ref q2), .unset] [(.int w37_0)])) _
      exact kgo_
    · refine ⟨T35, (0 : Int32), Or.inr ⟨hf36, rfl⟩, ⟨X35, e35⟩, fun target kgo_ => ?_⟩
      show Steps p.tables e below (T35.setTop (mkF m 235 #[.val (.int p0), .val (.int p1), .val (.int p2), .val (.int p3), .val (.int (3 : Int32)), .val (.ref a), .val (.ref kd), .val (.int ((p3 >>> ((3 : Int32) &&& 31)) &&& (3 : Int32))), .val (.ref fo), .val (.int car), .val (.ref q), .val (.int art), .val (.ref a2), .val (.ref q2), .unset] [(.ref kS), (.ref kd)])) _
      refine Jvm.RoadKit.acmp (g := (mkF m 235 #[.val (.int p0), .val (.int p1), .val (.int p2), .val (.int p3), .val (.int (3 : Int32)), .val (.ref a), .val (.ref kd), .val (.int ((p3 >>> ((3 : Int32) &&& 31)) &&& (3 : Int32))), .val (.ref fo), .val (.int car), .val (.ref q), .val (.int art), .val (.ref a2), .val (.ref q2), .unset] [(.ref kS), (.ref kd)])) X35 hx rfl rfl rfl (pc0 := 235) (pc' := 248) (same := false) rfl (hb hby at_235) rfl (decide_eq_false fun q => hf36 (Value.ref.inj q)) (by decide) (by decide) ?_
      show Steps p.tables e below (T35.setTop (mkF m 248 #[.val (.int p0), .val (.int p1), .val (.int p2), .val (.int p3), .val (.int (3 : Int32)), .val (.ref a), .val (.ref kd), .val (.int ((p3 >>> ((3 : Int32) &&& 31)) &&& (3 : Int32))), .val (.ref fo), .val (.int car), .val (.ref q), .val (.int art), .val (.ref a2), .val (.ref q2), .unset] [])) _
      refine XS.iconst X35.here hx rfl (hb hby at_248) ?_
      show Steps p.tables e below (T35.setTop (mkF m 249 #[.val (.int p0), .val (.int p1), .val (.int p2), .val (.int p3), .val (.int (3 : Int32)), .val (.ref a), .val (.ref kd), .val (.int ((p3 >>> ((3 : Int32) &&& 31)) &&& (3 : Int32))), .val (.ref fo), .val (.int car), .val (.ref q), .val (.int art), .val (.ref a2), .val (.ref q2), .unset] [(.int (0 : Int32))])) _
      exact kgo_
  obtain ⟨cq38, kq38, q38a, q38b, q38c⟩ := isOf hZ e36 f34_E_q
  obtain ⟨_, _, ⟨T38, L38, k38, n38⟩, -, X38, ⟨Lc38, hQ38, l38, y38, z38⟩, st38⟩ := X36.virtualBack hx (y := (⟨"com/example/witnesseth/witnesseth/HeadingLine", "article", "()I"⟩ : MethodName)) (z := (⟨"com/example/witnesseth/witnesseth/HeadingLine", "article", "()I"⟩ : MethodName)) hown (mvT hZ (hw _ (List.mem_of_getElem? (i := 111) rfl))) (mvT hZ (hw _ (List.mem_of_getElem? (i := 112) rfl))) (notFace_of_selects (args := #[]) (mvT hZ (hw _ (List.mem_of_getElem? (i := 114) rfl)))) (mvT hZ (hw _ (List.mem_of_getElem? (i := 114) rfl))) (mvT hZ (hw _ (List.mem_of_getElem? (i := 113) rfl))) (by decide) (backOf (W := 0) (own_art3 l Z a0 hw [] q a ea (own_uv (own_uv (own_uv (fun _ => Value.null) 0 (.ref x1)) 1 (.ref x2)) 2 (.ref x3)) x1 p0 T34.heap n0 O34  f34_F_q_value f34_L_a f34_E_x1 f34_F_x1_value rfl) hZ (hw _ (List.mem_of_getElem? (i := 115) rfl)) (hw _ (List.mem_of_getElem? (i := 76) rfl)) (by decide) (by decide)) q38a q38c (g := (mkF m 253 #[.val (.int p0), .val (.int p1), .val (.int p2), .val (.int p3), .val (.int (3 : Int32)), .val (.ref a), .val (.ref kd), .val (.int ((p3 >>> ((3 : Int32) &&& 31)) &&& (3 : Int32))), .val (.ref fo), .val (.int car), .val (.ref q), .val (.int art), .val (.ref a2), .val (.ref q2), .val (.int eh)] [(.ref q)])) rfl (by rw [hml]; rfl) (Steps.refl _) (argsL := []) (rest := []) (lenOf own_pd8 rfl) rfl (by show 2 * 0 + _ ≤ _; exact Nat.le_of_eq rfl) (hb hby at_253) (fun _ _ => ⟨rfl, e36, (by decide : 18 + 0 ≤ _), (by decide : 68 + 0 ≤ _)⟩)
  dsimp only [Pt.U, Pt.locs, Pt.cells, Pt.slots] at X38 l38 y38 z38 st38 hQ38
  subst l38 y38 z38
  obtain ⟨rfl, rfl, e38⟩ := hQ38
  try rw [List.append_nil] at X38
  obtain ⟨cq39, kq39, q39a, q39b, q39c⟩ := isOf hZ e38 p34_E_q
  obtain ⟨_, _, ⟨T39, L39, k39, n39⟩, -, X39, ⟨Lc39, hQ39, l39, y39, z39⟩, st39⟩ := X38.virtualBack hx (y := (⟨"com/example/witnesseth/witnesseth/HeadingLine", "article", "()I"⟩ : MethodName)) (z := (⟨"com/example/witnesseth/witnesseth/HeadingLine", "article", "()I"⟩ : MethodName)) hown (mvT hZ (hw _ (List.mem_of_getElem? (i := 111) rfl))) (mvT hZ (hw _ (List.mem_of_getElem? (i := 112) rfl))) (notFace_of_selects (args := #[]) (mvT hZ (hw _ (List.mem_of_getElem? (i := 114) rfl)))) (mvT hZ (hw _ (List.mem_of_getElem? (i := 114) rfl))) (mvT hZ (hw _ (List.mem_of_getElem? (i := 113) rfl))) (by decide) (backOf (W := 0) (own_art1 l Z a0 hw [] q2 a2 ea2 (own_uv (fun _ => Value.null) 0 (.ref x4)) x4 art T34.heap n0 O34  p34_F_q_value f34_L_a2 f34_E_x4 f34_F_x4_value rfl) hZ (hw _ (List.mem_of_getElem? (i := 115) rfl)) (hw _ (List.mem_of_getElem? (i := 76) rfl)) (by decide) (by decide)) q39a q39c (g := (mkF m 262 #[.val (.int p0), .val (.int p1), .val (.int p2), .val (.int p3), .val (.int (3 : Int32)), .val (.ref a), .val (.ref kd), .val (.int ((p3 >>> ((3 : Int32) &&& 31)) &&& (3 : Int32))), .val (.ref fo), .val (.int car), .val (.ref q), .val (.int art), .val (.ref a2), .val (.ref q2), .val (.int eh)] [(.ref q2)])) rfl (by rw [hml]; rfl) (Steps.refl _) (argsL := []) (rest := []) (lenOf own_pd8 rfl) rfl (by show 2 * 0 + _ ≤ _; exact Nat.le_of_eq rfl) (hb hby at_262) (fun _ _ => ⟨rfl, e38, (by decide : 18 + 0 ≤ _), (by decide : 68 + 0 ≤ _)⟩)
  dsimp only [Pt.U, Pt.locs, Pt.cells, Pt.slots] at X39 l39 y39 z39 st39 hQ39
  subst l39 y39 z39
  obtain ⟨rfl, rfl, e39⟩ := hQ39
  try rw [List.append_nil] at X39
  obtain ⟨cq40, kq40, q40a, q40b, q40c⟩ := isOf hZ e39 p34_E_q
  obtain ⟨_, _, ⟨T40, L40, k40, n40⟩, -, X40, ⟨Lc40, hQ40, l40, y40, z40⟩, st40⟩ := X39.virtualBack hx (y := (⟨"com/example/witnesseth/witnesseth/HeadingLine", "holds", "(Lcom/example/witnesseth/witnesseth/HeadingLine;)Z"⟩ : MethodName)) (z := (⟨"com/example/witnesseth/witnesseth/HeadingLine", "holds", "(Lcom/example/witnesseth/witnesseth/HeadingLine;)Z"⟩ : MethodName)) hown (mvT hZ (hw _ (List.mem_of_getElem? (i := 146) rfl))) (mvT hZ (hw _ (List.mem_of_getElem? (i := 147) rfl))) (notFace_of_selects (args := #[]) (mvT hZ (hw _ (List.mem_of_getElem? (i := 149) rfl)))) (mvT hZ (hw _ (List.mem_of_getElem? (i := 149) rfl))) (mvT hZ (hw _ (List.mem_of_getElem? (i := 148) rfl))) (by decide) (backOf (W := 0) (own_h3_13 l Z a0 hw [] q2 q D cD ich icc kA kS f0 f1 f2 f3 kA kd a2 ea2 (own_uv (fun _ => Value.null) 0 (.ref x4)) x4 art a ea (own_uv (own_uv (own_uv (fun _ => Value.null) 0 (.ref x1)) 1 (.ref x2)) 2 (.ref x3)) x1 p0 T34.heap n0 O34 K p34_E_q f34_E_q p34_F_q_kind f34_F_q_kind p34_F_q_value f34_L_a2 f34_E_x4 f34_F_x4_value rfl f34_F_q_value f34_L_a f34_E_x1 f34_F_x1_value rfl) hZ (hw _ (List.mem_of_getElem? (i := 150) rfl)) (hw _ (List.mem_of_getElem? (i := 76) rfl)) (by decide) (by decide)) q40a q40c (g := (mkF m 274 #[.val (.int p0), .val (.int p1), .val (.int p2), .val (.int p3), .val (.int (3 : Int32)), .val (.ref a), .val (.ref kd), .val (.int ((p3 >>> ((3 : Int32) &&& 31)) &&& (3 : Int32))), .val (.ref fo), .val (.int car), .val (.ref q), .val (.int art), .val (.ref a2), .val (.ref q2), .val (.int eh)] [(.ref q), (.ref q2)])) rfl (by rw [hml]; rfl) (Steps.refl _) (argsL := [(.ref q)]) (rest := []) (lenOf own_pd12 rfl) rfl (by show 2 * 0 + _ ≤ _; exact Nat.le_of_eq rfl) (hb hby at_274) (fun _ _ => ⟨rfl, e39, (by decide : 18 + 0 ≤ _), (by decide : 68 + 0 ≤ _)⟩)
  dsimp only [Pt.U, Pt.locs, Pt.cells, Pt.slots] at X40 l40 y40 z40 st40 hQ40
  subst l40 y40 z40
  obtain ⟨rb1, rfl, rfl, e40, rel_rb1⟩ := hQ40
  try rw [List.append_nil] at X40
  obtain ⟨fs, hr, hrun, hended, hend⟩ := X40.leaveW hS (by rw [show T40.heap = T34.heap from e40]; exact hk) (v := some (.int (1 : Int32))) (fun h => by rw [Bd.returns] at h; cases h)
  refine ⟨_, _, pre0 _ ?_, hrun, hended, _, _, rfl, ?_, ⟨hend.1, hend.2.1, hend.2.2.1, hend.2.2.2.mono (by decide) (by decide)⟩⟩
  · show Steps p.tables e below (s₁.setTop (mkF m 0 #[.val (.int p0), .val (.int p1), .val (.int p2), .val (.int p3), .unset, .unset, .unset, .unset, .unset, .unset, .unset, .unset, .unset, .unset, .unset] [])) _
    refine XS.iloadN X0.here hx rfl (hb hby at_0) rfl ?_
    show Steps p.tables e below (s₁.setTop (mkF m 1 #[.val (.int p0), .val (.int p1), .val (.int p2), .val (.int p3), .unset, .unset, .unset, .unset, .unset, .unset, .unset, .unset, .unset, .unset, .unset] [(.int p3)])) _
    refine XS.iconst X0.here hx rfl (hb hby at_1) ?_
    show Steps p.tables e below (s₁.setTop (mkF m 2 #[.val (.int p0), .val (.int p1), .val (.int p2), .val (.int p3), .unset, .unset, .unset, .unset, .unset, .unset, .unset, .unset, .unset, .unset, .unset] [(.int (3 : Int32)), (.int p3)])) _
    refine XS.iand X0.here hx rfl (hb hby at_2) rfl ?_
    show Steps p.tables e below (s₁.setTop (mkF m 3 #[.val (.int p0), .val (.int p1), .val (.int p2), .val (.int p3), .unset, .unset, .unset, .unset, .unset, .unset, .unset, .unset, .unset, .unset, .unset] [(.int (p3 &&& (3 : Int32)))])) _
    refine XS.iconst X0.here hx rfl (hb hby at_3) ?_
    show Steps p.tables e below (s₁.setTop (mkF m 4 #[.val (.int p0), .val (.int p1), .val (.int p2), .val (.int p3), .unset, .unset, .unset, .unset, .unset, .unset, .unset, .unset, .unset, .unset, .unset] [(.int (3 : Int32)), (.int (p3 &&& (3 : Int32)))])) _
    refine iremM X0 hx rfl (hb hby at_4) rfl (by decide) ?_
    show Steps p.tables e below (s₁.setTop (mkF m 5 #[.val (.int p0), .val (.int p1), .val (.int p2), .val (.int p3), .unset, .unset, .unset, .unset, .unset, .unset, .unset, .unset, .unset, .unset, .unset] [(.int ((p3 &&& (3 : Int32)) % (3 : Int32)))])) _
    rw [hc]
    show Steps p.tables e below (s₁.setTop (mkF m 5 #[.val (.int p0), .val (.int p1), .val (.int p2), .val (.int p3), .unset, .unset, .unset, .unset, .unset, .unset, .unset, .unset, .unset, .unset, .unset] [(.int (2 : Int32))])) _
    refine XS.iconst X0.here hx rfl (hb hby at_5) ?_
    show Steps p.tables e below (s₁.setTop (mkF m 6 #[.val (.int p0), .val (.int p1), .val (.int p2), .val (.int p3), .unset, .unset, .unset, .unset, .unset, .unset, .unset, .unset, .unset, .unset, .unset] [(.int (1 : Int32)), (.int (2 : Int32))])) _
    refine XS.iadd X0.here hx rfl (hb hby at_6) rfl ?_
    show Steps p.tables e below (s₁.setTop (mkF m 7 #[.val (.int p0), .val (.int p1), .val (.int p2), .val (.int p3), .unset, .unset, .unset, .unset, .unset, .unset, .unset, .unset, .unset, .unset, .unset] [(.int ((2 : Int32) + (1 : Int32)))])) _
    rw [show ((2 : Int32) + (1 : Int32)) = (3 : Int32) from by decide]
    show Steps p.tables e below (s₁.setTop (mkF m 7 #[.val (.int p0), .val (.int p1), .val (.int p2), .val (.int p3), .unset, .unset, .unset, .unset, .unset, .unset, .unset, .unset, .unset, .unset, .unset] [(.int (3 : Int32))])) _
    refine XS.istore X0.here hx rfl (hb hby at_7) rfl (l' := #[.val (.int p0), .val (.int p1), .val (.int p2), .val (.int p3), .val (.int (3 : Int32)), .unset, .unset, .unset, .unset, .unset, .unset, .unset, .unset, .unset, .unset]) rfl ?_
    show Steps p.tables e below (s₁.setTop (mkF m 9 #[.val (.int p0), .val (.int p1), .val (.int p2), .val (.int p3), .val (.int (3 : Int32)), .unset, .unset, .unset, .unset, .unset, .unset, .unset, .unset, .unset, .unset] [])) _
    refine st1 _ ?_
    show Steps p.tables e below (T1.setTop (mkF m 12 #[.val (.int p0), .val (.int p1), .val (.int p2), .val (.int p3), .val (.int (3 : Int32)), .unset, .unset, .unset, .unset, .unset, .unset, .unset, .unset, .unset, .unset] [(.ref a)])) _
    refine XS.dup X1.here hx rfl (hb hby at_12) rfl rfl ?_
    show Steps p.tables e below (T1.setTop (mkF m 13 #[.val (.int p0), .val (.int p1), .val (.int p2), .val (.int p3), .val (.int (3 : Int32)), .unset, .unset, .unset, .unset, .unset, .unset, .unset, .unset, .unset, .unset] [(.ref a), (.ref a)])) _
    refine st2.trans ?_
    show Steps p.tables e below (T2.setTop (mkF m 16 #[.val (.int p0), .val (.int p1), .val (.int p2), .val (.int p3), .val (.int (3 : Int32)), .unset, .unset, .unset, .unset, .unset, .unset, .unset, .unset, .unset, .unset] [(.ref a)])) _
    refine XS.astore X2.here hx rfl (hb hby at_16) rfl rfl (l' := #[.val (.int p0), .val (.int p1), .val (.int p2), .val (.int p3), .val (.int (3 : Int32)), .val (.ref a), .unset, .unset, .unset, .unset, .unset, .unset, .unset, .unset, .unset]) rfl ?_
    show Steps p.tables e below (T2.setTop (mkF m 18 #[.val (.int p0), .val (.int p1), .val (.int p2), .val (.int p3), .val (.int (3 : Int32)), .val (.ref a), .unset, .unset, .unset, .unset, .unset, .unset, .unset, .unset, .unset] [])) _
    refine XS.aload X2.here hx rfl (hb hby at_18) rfl rfl ?_
    show Steps p.tables e below (T2.setTop (mkF m 20 #[.val (.int p0), .val (.int p1), .val (.int p2), .val (.int p3), .val (.int (3 : Int32)), .val (.ref a), .unset, .unset, .unset, .unset, .unset, .unset, .unset, .unset, .unset] [(.ref a)])) _
    refine XS.iloadN X2.here hx rfl (hb hby at_20) rfl ?_
    show Steps p.tables e below (T2.setTop (mkF m 21 #[.val (.int p0), .val (.int p1), .val (.int p2), .val (.int p3), .val (.int (3 : Int32)), .val (.ref a), .unset, .unset, .unset, .unset, .unset, .unset, .unset, .unset, .unset] [(.int p0), (.ref a)])) _
    refine st3 _ ?_
    show Steps p.tables e below (T3.setTop (mkF m 24 #[.val (.int p0), .val (.int p1), .val (.int p2), .val (.int p3), .val (.int (3 : Int32)), .val (.ref a), .unset, .unset, .unset, .unset, .unset, .unset, .unset, .unset, .unset] [(.ref x1), (.ref a)])) _
    refine st4.trans ?_
    show Steps p.tables e below (T4.setTop (mkF m 29 #[.val (.int p0), .val (.int p1), .val (.int p2), .val (.int p3), .val (.int (3 : Int32)), .val (.ref a), .unset, .unset, .unset, .unset, .unset, .unset, .unset, .unset, .unset] [(.int (1 : Int32))])) _
    refine XS.pop X4.here hx rfl (hb hby at_29) rfl rfl ?_
    show Steps p.tables e below (T4.setTop (mkF m 30 #[.val (.int p0), .val (.int p1), .val (.int p2), .val (.int p3), .val (.int (3 : Int32)), .val (.ref a), .unset, .unset, .unset, .unset, .unset, .unset, .unset, .unset, .unset] [])) _
    refine XS.iload X4.here hx rfl (hb hby at_30) rfl ?_
    show Steps p.tables e below (T4.setTop (mkF m 32 #[.val (.int p0), .val (.int p1), .val (.int p2), .val (.int p3), .val (.int (3 : Int32)), .val (.ref a), .unset, .unset, .unset, .unset, .unset, .unset, .unset, .unset, .unset] [(.int (3 : Int32))])) _
    refine XS.iconst X4.here hx rfl (hb hby at_32) ?_
    show Steps p.tables e below (T4.setTop (mkF m 33 #[.val (.int p0), .val (.int p1), .val (.int p2), .val (.int p3), .val (.int (3 : Int32)), .val (.ref a), .unset, .unset, .unset, .unset, .unset, .unset, .unset, .unset, .unset] [(.int (2 : Int32)), (.int (3 : Int32))])) _
    refine XS.icmpNo X4.here hx rfl (hb hby at_33) rfl (flt (by decide : ¬ ((3 : Int32) < (2 : Int32)))).1 ?_
    show Steps p.tables e below (T4.setTop (mkF m 36 #[.val (.int p0), .val (.int p1), .val (.int p2), .val (.int p3), .val (.int (3 : Int32)), .val (.ref a), .unset, .unset, .unset, .unset, .unset, .unset, .unset, .unset, .unset] [])) _
    refine XS.aload X4.here hx rfl (hb hby at_36) rfl rfl ?_
    show Steps p.tables e below (T4.setTop (mkF m 38 #[.val (.int p0), .val (.int p1), .val (.int p2), .val (.int p3), .val (.int (3 : Int32)), .val (.ref a), .unset, .unset, .unset, .unset, .unset, .unset, .unset, .unset, .unset] [(.ref a)])) _
    refine XS.iloadN X4.here hx rfl (hb hby at_38) rfl ?_
    show Steps p.tables e below (T4.setTop (mkF m 39 #[.val (.int p0), .val (.int p1), .val (.int p2), .val (.int p3), .val (.int (3 : Int32)), .val (.ref a), .unset, .unset, .unset, .unset, .unset, .unset, .unset, .unset, .unset] [(.int p1), (.ref a)])) _
    refine st5 _ ?_
    show Steps p.tables e below (T5.setTop (mkF m 42 #[.val (.int p0), .val (.int p1), .val (.int p2), .val (.int p3), .val (.int (3 : Int32)), .val (.ref a), .unset, .unset, .unset, .unset, .unset, .unset, .unset, .unset, .unset] [(.ref x2), (.ref a)])) _
    refine st6.trans ?_
    show Steps p.tables e below (T6.setTop (mkF m 47 #[.val (.int p0), .val (.int p1), .val (.int p2), .val (.int p3), .val (.int (3 : Int32)), .val (.ref a), .unset, .unset, .unset, .unset, .unset, .unset, .unset, .unset, .unset] [(.int (1 : Int32))])) _
    refine XS.pop X6.here hx rfl (hb hby at_47) rfl rfl ?_
    show Steps p.tables e below (T6.setTop (mkF m 48 #[.val (.int p0), .val (.int p1), .val (.int p2), .val (.int p3), .val (.int (3 : Int32)), .val (.ref a), .unset, .unset, .unset, .unset, .unset, .unset, .unset, .unset, .unset] [])) _
    refine XS.iload X6.here hx rfl (hb hby at_48) rfl ?_
    show Steps p.tables e below (T6.setTop (mkF m 50 #[.val (.int p0), .val (.int p1), .val (.int p2), .val (.int p3), .val (.int (3 : Int32)), .val (.ref a), .unset, .unset, .unset, .unset, .unset, .unset, .unset, .unset, .unset] [(.int (3 : Int32))])) _
    refine XS.iconst X6.here hx rfl (hb hby at_50) ?_
    show Steps p.tables e below (T6.setTop (mkF m 51 #[.val (.int p0), .val (.int p1), .val (.int p2), .val (.int p3), .val (.int (3 : Int32)), .val (.ref a), .unset, .unset, .unset, .unset, .unset, .unset, .unset, .unset, .unset] [(.int (3 : Int32)), (.int (3 : Int32))])) _
    refine XS.icmpNo X6.here hx rfl (hb hby at_51) rfl (flt (by decide : ¬ ((3 : Int32) < (3 : Int32)))).1 ?_
    show Steps p.tables e below (T6.setTop (mkF m 54 #[.val (.int p0), .val (.int p1), .val (.int p2), .val (.int p3), .val (.int (3 : Int32)), .val (.ref a), .unset, .unset, .unset, .unset, .unset, .unset, .unset, .unset, .unset] [])) _
    refine XS.aload X6.here hx rfl (hb hby at_54) rfl rfl ?_
    show Steps p.tables e below (T6.setTop (mkF m 56 #[.val (.int p0), .val (.int p1), .val (.int p2), .val (.int p3), .val (.int (3 : Int32)), .val (.ref a), .unset, .unset, .unset, .unset, .unset, .unset, .unset, .unset, .unset] [(.ref a)])) _
    refine XS.iloadN X6.here hx rfl (hb hby at_56) rfl ?_
    show Steps p.tables e below (T6.setTop (mkF m 57 #[.val (.int p0), .val (.int p1), .val (.int p2), .val (.int p3), .val (.int (3 : Int32)), .val (.ref a), .unset, .unset, .unset, .unset, .unset, .unset, .unset, .unset, .unset] [(.int p2), (.ref a)])) _
    refine st7 _ ?_
    show Steps p.tables e below (T7.setTop (mkF m 60 #[.val (.int p0), .val (.int p1), .val (.int p2), .val (.int p3), .val (.int (3 : Int32)), .val (.ref a), .unset, .unset, .unset, .unset, .unset, .unset, .unset, .unset, .unset] [(.ref x3), (.ref a)])) _
    refine st8.trans ?_
    show Steps p.tables e below (T8.setTop (mkF m 65 #[.val (.int p0), .val (.int p1), .val (.int p2), .val (.int p3), .val (.int (3 : Int32)), .val (.ref a), .unset, .unset, .unset, .unset, .unset, .unset, .unset, .unset, .unset] [(.int (1 : Int32))])) _
    refine XS.pop X8.here hx rfl (hb hby at_65) rfl rfl ?_
    show Steps p.tables e below (T8.setTop (mkF m 66 #[.val (.int p0), .val (.int p1), .val (.int p2), .val (.int p3), .val (.int (3 : Int32)), .val (.ref a), .unset, .unset, .unset, .unset, .unset, .unset, .unset, .unset, .unset] [])) _
    refine XS.iloadN X8.here hx rfl (hb hby at_66) rfl ?_
    show Steps p.tables e below (T8.setTop (mkF m 67 #[.val (.int p0), .val (.int p1), .val (.int p2), .val (.int p3), .val (.int (3 : Int32)), .val (.ref a), .unset, .unset, .unset, .unset, .unset, .unset, .unset, .unset, .unset] [(.int p3)])) _
    refine XS.iconst X8.here hx rfl (hb hby at_67) ?_
    show Steps p.tables e below (T8.setTop (mkF m 68 #[.val (.int p0), .val (.int p1), .val (.int p2), .val (.int p3), .val (.int (3 : Int32)), .val (.ref a), .unset, .unset, .unset, .unset, .unset, .unset, .unset, .unset, .unset] [(.int (2 : Int32)), (.int p3)])) _
    refine XS.ishr X8.here hx rfl (hb hby at_68) rfl ?_
    show Steps p.tables e below (T8.setTop (mkF m 69 #[.val (.int p0), .val (.int p1), .val (.int p2), .val (.int p3), .val (.int (3 : Int32)), .val (.ref a), .unset, .unset, .unset, .unset, .unset, .unset, .unset, .unset, .unset] [(.int (p3 >>> ((2 : Int32) &&& 31)))])) _
    refine XS.iconst X8.here hx rfl (hb hby at_69) ?_
    show Steps p.tables e below (T8.setTop (mkF m 70 #[.val (.int p0), .val (.int p1), .val (.int p2), .val (.int p3), .val (.int (3 : Int32)), .val (.ref a), .unset, .unset, .unset, .unset, .unset, .unset, .unset, .unset, .unset] [(.int (1 : Int32)), (.int (p3 >>> ((2 : Int32) &&& 31)))])) _
    refine XS.iand X8.here hx rfl (hb hby at_70) rfl ?_
    refine st9 _ ?_
    show Steps p.tables e below (T9.setTop (mkF m 83 #[.val (.int p0), .val (.int p1), .val (.int p2), .val (.int p3), .val (.int (3 : Int32)), .val (.ref a), .unset, .unset, .unset, .unset, .unset, .unset, .unset, .unset, .unset] [(.ref kd)])) _
    refine XS.astore X9.here hx rfl (hb hby at_83) rfl rfl (l' := #[.val (.int p0), .val (.int p1), .val (.int p2), .val (.int p3), .val (.int (3 : Int32)), .val (.ref a), .val (.ref kd), .unset, .unset, .unset, .unset, .unset, .unset, .unset, .unset]) rfl ?_
    show Steps p.tables e below (T9.setTop (mkF m 85 #[.val (.int p0), .val (.int p1), .val (.int p2), .val (.int p3), .val (.int (3 : Int32)), .val (.ref a), .val (.ref kd), .unset, .unset, .unset, .unset, .unset, .unset, .unset, .unset] [])) _
    refine XS.iloadN X9.here hx rfl (hb hby at_85) rfl ?_
    show Steps p.tables e below (T9.setTop (mkF m 86 #[.val (.int p0), .val (.int p1), .val (.int p2), .val (.int p3), .val (.int (3 : Int32)), .val (.ref a), .val (.ref kd), .unset, .unset, .unset, .unset, .unset, .unset, .unset, .unset] [(.int p3)])) _
    refine XS.iconst X9.here hx rfl (hb hby at_86) ?_
    show Steps p.tables e below (T9.setTop (mkF m 87 #[.val (.int p0), .val (.int p1), .val (.int p2), .val (.int p3), .val (.int (3 : Int32)), .val (.ref a), .val (.ref kd), .unset, .unset, .unset, .unset, .unset, .unset, .unset, .unset] [(.int (3 : Int32)), (.int p3)])) _
    refine XS.ishr X9.here hx rfl (hb hby at_87) rfl ?_
    show Steps p.tables e below (T9.setTop (mkF m 88 #[.val (.int p0), .val (.int p1), .val (.int p2), .val (.int p3), .val (.int (3 : Int32)), .val (.ref a), .val (.ref kd), .unset, .unset, .unset, .unset, .unset, .unset, .unset, .unset] [(.int (p3 >>> ((3 : Int32) &&& 31)))])) _
    refine XS.iconst X9.here hx rfl (hb hby at_88) ?_
    show Steps p.tables e below (T9.setTop (mkF m 89 #[.val (.int p0), .val (.int p1), .val (.int p2), .val (.int p3), .val (.int (3 : Int32)), .val (.ref a), .val (.ref kd), .unset, .unset, .unset, .unset, .unset, .unset, .unset, .unset] [(.int (3 : Int32)), (.int (p3 >>> ((3 : Int32) &&& 31)))])) _
    refine XS.iand X9.here hx rfl (hb hby at_89) rfl ?_
    show Steps p.tables e below (T9.setTop (mkF m 90 #[.val (.int p0), .val (.int p1), .val (.int p2), .val (.int p3), .val (.int (3 : Int32)), .val (.ref a), .val (.ref kd), .unset, .unset, .unset, .unset, .unset, .unset, .unset, .unset] [(.int ((p3 >>> ((3 : Int32) &&& 31)) &&& (3 : Int32)))])) _
    refine XS.istore X9.here hx rfl (hb hby at_90) rfl (l' := #[.val (.int p0), .val (.int p1), .val (.int p2), .val (.int p3), .val (.int (3 : Int32)), .val (.ref a), .val (.ref kd), .val (.int ((p3 >>> ((3 : Int32) &&& 31)) &&& (3 : Int32))), .unset, .unset, .unset, .unset, .unset, .unset, .unset]) rfl ?_
    show Steps p.tables e below (T9.setTop (mkF m 92 #[.val (.int p0), .val (.int p1), .val (.int p2), .val (.int p3), .val (.int (3 : Int32)), .val (.ref a), .val (.ref kd), .val (.int ((p3 >>> ((3 : Int32) &&& 31)) &&& (3 : Int32))), .unset, .unset, .unset, .unset, .unset, .unset, .unset] [])) _
    refine XS.iload X9.here hx rfl (hb hby at_92) rfl ?_
    refine st12 _ ?_
    show Steps p.tables e below (T12.setTop (mkF m 130 #[.val (.int p0), .val (.int p1), .val (.int p2), .val (.int p3), .val (.int (3 : Int32)), .val (.ref a), .val (.ref kd), .val (.int ((p3 >>> ((3 : Int32) &&& 31)) &&& (3 : Int32))), .unset, .unset, .unset, .unset, .unset, .unset, .unset] [(.ref fo)])) _
    refine XS.astore X12.here hx rfl (hb hby at_130) rfl rfl (l' := #[.val (.int p0), .val (.int p1), .val (.int p2), .val (.int p3), .val (.int (3 : Int32)), .val (.ref a), .val (.ref kd), .val (.int ((p3 >>> ((3 : Int32) &&& 31)) &&& (3 : Int32))), .val (.ref fo), .unset, .unset, .unset, .unset, .unset, .unset]) rfl ?_
    show Steps p.tables e below (T12.setTop (mkF m 132 #[.val (.int p0), .val (.int p1), .val (.int p2), .val (.int p3), .val (.int (3 : Int32)), .val (.ref a), .val (.ref kd), .val (.int ((p3 >>> ((3 : Int32) &&& 31)) &&& (3 : Int32))), .val (.ref fo), .unset, .unset, .unset, .unset, .unset, .unset] [])) _
    refine XS.iloadN X12.here hx rfl (hb hby at_132) rfl ?_
    show Steps p.tables e below (T12.setTop (mkF m 133 #[.val (.int p0), .val (.int p1), .val (.int p2), .val (.int p3), .val (.int (3 : Int32)), .val (.ref a), .val (.ref kd), .val (.int ((p3 >>> ((3 : Int32) &&& 31)) &&& (3 : Int32))), .val (.ref fo), .unset, .unset, .unset, .unset, .unset, .unset] [(.int p3)])) _
    refine XS.iconst X12.here hx rfl (hb hby at_133) ?_
    show Steps p.tables e below (T12.setTop (mkF m 134 #[.val (.int p0), .val (.int p1), .val (.int p2), .val (.int p3), .val (.int (3 : Int32)), .val (.ref a), .val (.ref kd), .val (.int ((p3 >>> ((3 : Int32) &&& 31)) &&& (3 : Int32))), .val (.ref fo), .unset, .unset, .unset, .unset, .unset, .unset] [(.int (5 : Int32)), (.int p3)])) _
    refine XS.ishr X12.here hx rfl (hb hby at_134) rfl ?_
    show Steps p.tables e below (T12.setTop (mkF m 135 #[.val (.int p0), .val (.int p1), .val (.int p2), .val (.int p3), .val (.int (3 : Int32)), .val (.ref a), .val (.ref kd), .val (.int ((p3 >>> ((3 : Int32) &&& 31)) &&& (3 : Int32))), .val (.ref fo), .unset, .unset, .unset, .unset, .unset, .unset] [(.int (p3 >>> ((5 : Int32) &&& 31)))])) _
    refine XS.iconst X12.here hx rfl (hb hby at_135) ?_
    show Steps p.tables e below (T12.setTop (mkF m 136 #[.val (.int p0), .val (.int p1), .val (.int p2), .val (.int p3), .val (.int (3 : Int32)), .val (.ref a), .val (.ref kd), .val (.int ((p3 >>> ((3 : Int32) &&& 31)) &&& (3 : Int32))), .val (.ref fo), .unset, .unset, .unset, .unset, .unset, .unset] [(.int (1 : Int32)), (.int (p3 >>> ((5 : Int32) &&& 31)))])) _
    refine XS.iand X12.here hx rfl (hb hby at_136) rfl ?_
    refine st19 _ ?_
    show Steps p.tables e below (T19.setTop (mkF m 145 #[.val (.int p0), .val (.int p1), .val (.int p2), .val (.int p3), .val (.int (3 : Int32)), .val (.ref a), .val (.ref kd), .val (.int ((p3 >>> ((3 : Int32) &&& 31)) &&& (3 : Int32))), .val (.ref fo), .unset, .unset, .unset, .unset, .unset, .unset] [(.int car)])) _
    refine XS.istore X19.here hx rfl (hb hby at_145) rfl (l' := #[.val (.int p0), .val (.int p1), .val (.int p2), .val (.int p3), .val (.int (3 : Int32)), .val (.ref a), .val (.ref kd), .val (.int ((p3 >>> ((3 : Int32) &&& 31)) &&& (3 : Int32))), .val (.ref fo), .val (.int car), .unset, .unset, .unset, .unset, .unset]) rfl ?_
    show Steps p.tables e below (T19.setTop (mkF m 147 #[.val (.int p0), .val (.int p1), .val (.int p2), .val (.int p3), .val (.int (3 : Int32)), .val (.ref a), .val (.ref kd), .val (.int ((p3 >>> ((3 : Int32) &&& 31)) &&& (3 : Int32))), .val (.ref fo), .val (.int car), .unset, .unset, .unset, .unset, .unset] [])) _
    refine st20 _ ?_
    show Steps p.tables e below (T20.setTop (mkF m 150 #[.val (.int p0), .val (.int p1), .val (.int p2), .val (.int p3), .val (.int (3 : Int32)), .val (.ref a), .val (.ref kd), .val (.int ((p3 >>> ((3 : Int32) &&& 31)) &&& (3 : Int32))), .val (.ref fo), .val (.int car), .unset, .unset, .unset, .unset, .unset] [(.ref q)])) _
    refine XS.dup X20.here hx rfl (hb hby at_150) rfl rfl ?_
    show Steps p.tables e below (T20.setTop (mkF m 151 #[.val (.int p0), .val (.int p1), .val (.int p2), .val (.int p3), .val (.int (3 : Int32)), .val (.ref a), .val (.ref kd), .val (.int ((p3 >>> ((3 : Int32) &&& 31)) &&& (3 : Int32))), .val (.ref fo), .val (.int car), .unset, .unset, .unset, .unset, .unset] [(.ref q), (.ref q)])) _
    refine XS.iloadN X20.here hx rfl (hb hby at_151) rfl ?_
    show Steps p.tables e below (T20.setTop (mkF m 152 #[.val (.int p0), .val (.int p1), .val (.int p2), .val (.int p3), .val (.int (3 : Int32)), .val (.ref a), .val (.ref kd), .val (.int ((p3 >>> ((3 : Int32) &&& 31)) &&& (3 : Int32))), .val (.ref fo), .val (.int car), .unset, .unset, .unset, .unset, .unset] [(.int p3), (.ref q), (.ref q)])) _
    refine XS.aload X20.here hx rfl (hb hby at_152) rfl rfl ?_
    show Steps p.tables e below (T20.setTop (mkF m 154 #[.val (.int p0), .val (.int p1), .val (.int p2), .val (.int p3), .val (.int (3 : Int32)), .val (.ref a), .val (.ref kd), .val (.int ((p3 >>> ((3 : Int32) &&& 31)) &&& (3 : Int32))), .val (.ref fo), .val (.int car), .unset, .unset, .unset, .unset, .unset] [(.ref kd), (.int p3), (.ref q), (.ref q)])) _
    refine st21 _ ?_
    show Steps p.tables e below (T21.setTop (mkF m 156 #[.val (.int p0), .val (.int p1), .val (.int p2), .val (.int p3), .val (.int (3 : Int32)), .val (.ref a), .val (.ref kd), .val (.int ((p3 >>> ((3 : Int32) &&& 31)) &&& (3 : Int32))), .val (.ref fo), .val (.int car), .unset, .unset, .unset, .unset, .unset] [(.ref lit21), (.ref kd), (.int p3), (.ref q), (.ref q)])) _
    refine XS.aload X21.here hx rfl (hb hby at_156) rfl rfl ?_
    show Steps p.tables e below (T21.setTop (mkF m 158 #[.val (.int p0), .val (.int p1), .val (.int p2), .val (.int p3), .val (.int (3 : Int32)), .val (.ref a), .val (.ref kd), .val (.int ((p3 >>> ((3 : Int32) &&& 31)) &&& (3 : Int32))), .val (.ref fo), .val (.int car), .unset, .unset, .unset, .unset, .unset] [(.ref a), (.ref lit21), (.ref kd), (.int p3), (.ref q), (.ref q)])) _
    refine st22 _ ?_
    show Steps p.tables e below (T22.setTop (mkF m 160 #[.val (.int p0), .val (.int p1), .val (.int p2), .val (.int p3), .val (.int (3 : Int32)), .val (.ref a), .val (.ref kd), .val (.int ((p3 >>> ((3 : Int32) &&& 31)) &&& (3 : Int32))), .val (.ref fo), .val (.int car), .unset, .unset, .unset, .unset, .unset] [(.ref lit22), (.ref a), (.ref lit21), (.ref kd), (.int p3), (.ref q), (.ref q)])) _
    refine XS.iload X22.here hx rfl (hb hby at_160) rfl ?_
    show Steps p.tables e below (T22.setTop (mkF m 162 #[.val (.int p0), .val (.int p1), .val (.int p2), .val (.int p3), .val (.int (3 : Int32)), .val (.ref a), .val (.ref kd), .val (.int ((p3 >>> ((3 : Int32) &&& 31)) &&& (3 : Int32))), .val (.ref fo), .val (.int car), .unset, .unset, .unset, .unset, .unset] [(.int car), (.ref lit22), (.ref a), (.ref lit21), (.ref kd), (.int p3), (.ref q), (.ref q)])) _
    refine XS.aload X22.here hx rfl (hb hby at_162) rfl rfl ?_
    show Steps p.tables e below (T22.setTop (mkF m 164 #[.val (.int p0), .val (.int p1), .val (.int p2), .val (.int p3), .val (.int (3 : Int32)), .val (.ref a), .val (.ref kd), .val (.int ((p3 >>> ((3 : Int32) &&& 31)) &&& (3 : Int32))), .val (.ref fo), .val (.int car), .unset, .unset, .unset, .unset, .unset] [(.ref fo), (.int car), (.ref lit22), (.ref a), (.ref lit21), (.ref kd), (.int p3), (.ref q), (.ref q)])) _
    refine st23.trans ?_
    show Steps p.tables e below (T23.setTop (mkF m 167 #[.val (.int p0), .val (.int p1), .val (.int p2), .val (.int p3), .val (.int (3 : Int32)), .val (.ref a), .val (.ref kd), .val (.int ((p3 >>> ((3 : Int32) &&& 31)) &&& (3 : Int32))), .val (.ref fo), .val (.int car), .unset, .unset, .unset, .unset, .unset] [(.ref q)])) _
    refine XS.astore X23.here hx rfl (hb hby at_167) rfl rfl (l' := #[.val (.int p0), .val (.int p1), .val (.int p2), .val (.int p3), .val (.int (3 : Int32)), .val (.ref a), .val (.ref kd), .val (.int ((p3 >>> ((3 : Int32) &&& 31)) &&& (3 : Int32))), .val (.ref fo), .val (.int car), .val (.ref q), .unset, .unset, .unset, .unset]) rfl ?_
    show Steps p.tables e below (T23.setTop (mkF m 169 #[.val (.int p0), .val (.int p1), .val (.int p2), .val (.int p3), .val (.int (3 : Int32)), .val (.ref a), .val (.ref kd), .val (.int ((p3 >>> ((3 : Int32) &&& 31)) &&& (3 : Int32))), .val (.ref fo), .val (.int car), .val (.ref q), .unset, .unset, .unset, .unset] [])) _
    refine XS.iloadN X23.here hx rfl (hb hby at_169) rfl ?_
    show Steps p.tables e below (T23.setTop (mkF m 170 #[.val (.int p0), .val (.int p1), .val (.int p2), .val (.int p3), .val (.int (3 : Int32)), .val (.ref a), .val (.ref kd), .val (.int ((p3 >>> ((3 : Int32) &&& 31)) &&& (3 : Int32))), .val (.ref fo), .val (.int car), .val (.ref q), .unset, .unset, .unset, .unset] [(.int p3)])) _
    refine XS.bipush X23.here hx rfl (hb hby at_170) ?_
    show Steps p.tables e below (T23.setTop (mkF m 172 #[.val (.int p0), .val (.int p1), .val (.int p2), .val (.int p3), .val (.int (3 : Int32)), .val (.ref a), .val (.ref kd), .val (.int ((p3 >>> ((3 : Int32) &&& 31)) &&& (3 : Int32))), .val (.ref fo), .val (.int car), .val (.ref q), .unset, .unset, .unset, .unset] [(.int (6 : Int32)), (.int p3)])) _
    refine XS.ishr X23.here hx rfl (hb hby at_172) rfl ?_
    show Steps p.tables e below (T23.setTop (mkF m 173 #[.val (.int p0), .val (.int p1), .val (.int p2), .val (.int p3), .val (.int (3 : Int32)), .val (.ref a), .val (.ref kd), .val (.int ((p3 >>> ((3 : Int32) &&& 31)) &&& (3 : Int32))), .val (.ref fo), .val (.int car), .val (.ref q), .unset, .unset, .unset, .unset] [(.int (p3 >>> ((6 : Int32) &&& 31)))])) _
    refine XS.iconst X23.here hx rfl (hb hby at_173) ?_
    show Steps p.tables e below (T23.setTop (mkF m 174 #[.val (.int p0), .val (.int p1), .val (.int p2), .val (.int p3), .val (.int (3 : Int32)), .val (.ref a), .val (.ref kd), .val (.int ((p3 >>> ((3 : Int32) &&& 31)) &&& (3 : Int32))), .val (.ref fo), .val (.int car), .val (.ref q), .unset, .unset, .unset, .unset] [(.int (1 : Int32)), (.int (p3 >>> ((6 : Int32) &&& 31)))])) _
    refine XS.iand X23.here hx rfl (hb hby at_174) rfl ?_
    refine st24 _ ?_
    show Steps p.tables e below (T24.setTop (mkF m 183 #[.val (.int p0), .val (.int p1), .val (.int p2), .val (.int p3), .val (.int (3 : Int32)), .val (.ref a), .val (.ref kd), .val (.int ((p3 >>> ((3 : Int32) &&& 31)) &&& (3 : Int32))), .val (.ref fo), .val (.int car), .val (.ref q), .unset, .unset, .unset, .unset] [(.int art)])) _
    refine XS.istore X24.here hx rfl (hb hby at_183) rfl (l' := #[.val (.int p0), .val (.int p1), .val (.int p2), .val (.int p3), .val (.int (3 : Int32)), .val (.ref a), .val (.ref kd), .val (.int ((p3 >>> ((3 : Int32) &&& 31)) &&& (3 : Int32))), .val (.ref fo), .val (.int car), .val (.ref q), .val (.int art), .unset, .unset, .unset]) rfl ?_
    show Steps p.tables e below (T24.setTop (mkF m 185 #[.val (.int p0), .val (.int p1), .val (.int p2), .val (.int p3), .val (.int (3 : Int32)), .val (.ref a), .val (.ref kd), .val (.int ((p3 >>> ((3 : Int32) &&& 31)) &&& (3 : Int32))), .val (.ref fo), .val (.int car), .val (.ref q), .val (.int art), .unset, .unset, .unset] [])) _
    refine st25 _ ?_
    show Steps p.tables e below (T25.setTop (mkF m 188 #[.val (.int p0), .val (.int p1), .val (.int p2), .val (.int p3), .val (.int (3 : Int32)), .val (.ref a), .val (.ref kd), .val (.int ((p3 >>> ((3 : Int32) &&& 31)) &&& (3 : Int32))), .val (.ref fo), .val (.int car), .val (.ref q), .val (.int art), .unset, .unset, .unset] [(.ref a2)])) _
    refine XS.dup X25.here hx rfl (hb hby at_188) rfl rfl ?_
    show Steps p.tables e below (T25.setTop (mkF m 189 #[.val (.int p0), .val (.int p1), .val (.int p2), .val (.int p3), .val (.int (3 : Int32)), .val (.ref a), .val (.ref kd), .val (.int ((p3 >>> ((3 : Int32) &&& 31)) &&& (3 : Int32))), .val (.ref fo), .val (.int car), .val (.ref q), .val (.int art), .unset, .unset, .unset] [(.ref a2), (.ref a2)])) _
    refine st26.trans ?_
    show Steps p.tables e below (T26.setTop (mkF m 192 #[.val (.int p0), .val (.int p1), .val (.int p2), .val (.int p3), .val (.int (3 : Int32)), .val (.ref a), .val (.ref kd), .val (.int ((p3 >>> ((3 : Int32) &&& 31)) &&& (3 : Int32))), .val (.ref fo), .val (.int car), .val (.ref q), .val (.int art), .unset, .unset, .unset] [(.ref a2)])) _
    refine XS.astore X26.here hx rfl (hb hby at_192) rfl rfl (l' := #[.val (.int p0), .val (.int p1), .val (.int p2), .val (.int p3), .val (.int (3 : Int32)), .val (.ref a), .val (.ref kd), .val (.int ((p3 >>> ((3 : Int32) &&& 31)) &&& (3 : Int32))), .val (.ref fo), .val (.int car), .val (.ref q), .val (.int art), .val (.ref a2), .unset, .unset]) rfl ?_
    show Steps p.tables e below (T26.setTop (mkF m 194 #[.val (.int p0), .val (.int p1), .val (.int p2), .val (.int p3), .val (.int (3 : Int32)), .val (.ref a), .val (.ref kd), .val (.int ((p3 >>> ((3 : Int32) &&& 31)) &&& (3 : Int32))), .val (.ref fo), .val (.int car), .val (.ref q), .val (.int art), .val (.ref a2), .unset, .unset] [])) _
    refine XS.aload X26.here hx rfl (hb hby at_194) rfl rfl ?_
    show Steps p.tables e below (T26.setTop (mkF m 196 #[.val (.int p0), .val (.int p1), .val (.int p2), .val (.int p3), .val (.int (3 : Int32)), .val (.ref a), .val (.ref kd), .val (.int ((p3 >>> ((3 : Int32) &&& 31)) &&& (3 : Int32))), .val (.ref fo), .val (.int car), .val (.ref q), .val (.int art), .val (.ref a2), .unset, .unset] [(.ref a2)])) _
    refine XS.iload X26.here hx rfl (hb hby at_196) rfl ?_
    show Steps p.tables e below (T26.setTop (mkF m 198 #[.val (.int p0), .val (.int p1), .val (.int p2), .val (.int p3), .val (.int (3 : Int32)), .val (.ref a), .val (.ref kd), .val (.int ((p3 >>> ((3 : Int32) &&& 31)) &&& (3 : Int32))), .val (.ref fo), .val (.int car), .val (.ref q), .val (.int art), .val (.ref a2), .unset, .unset] [(.int art), (.ref a2)])) _
    refine st27 _ ?_
    show Steps p.tables e below (T27.setTop (mkF m 201 #[.val (.int p0), .val (.int p1), .val (.int p2), .val (.int p3), .val (.int (3 : Int32)), .val (.ref a), .val (.ref kd), .val (.int ((p3 >>> ((3 : Int32) &&& 31)) &&& (3 : Int32))), .val (.ref fo), .val (.int car), .val (.ref q), .val (.int art), .val (.ref a2), .unset, .unset] [(.ref x4), (.ref a2)])) _
    refine st28.trans ?_
    show Steps p.tables e below (T28.setTop (mkF m 206 #[.val (.int p0), .val (.int p1), .val (.int p2), .val (.int p3), .val (.int (3 : Int32)), .val (.ref a), .val (.ref kd), .val (.int ((p3 >>> ((3 : Int32) &&& 31)) &&& (3 : Int32))), .val (.ref fo), .val (.int car), .val (.ref q), .val (.int art), .val (.ref a2), .unset, .unset] [(.int (1 : Int32))])) _
    refine XS.pop X28.here hx rfl (hb hby at_206) rfl rfl ?_
    show Steps p.tables e below (T28.setTop (mkF m 207 #[.val (.int p0), .val (.int p1), .val (.int p2), .val (.int p3), .val (.int (3 : Int32)), .val (.ref a), .val (.ref kd), .val (.int ((p3 >>> ((3 : Int32) &&& 31)) &&& (3 : Int32))), .val (.ref fo), .val (.int car), .val (.ref q), .val (.int art), .val (.ref a2), .unset, .unset] [])) _
    refine st29 _ ?_
    show Steps p.tables e below (T29.setTop (mkF m 210 #[.val (.int p0), .val (.int p1), .val (.int p2), .val (.int p3), .val (.int (3 : Int32)), .val (.ref a), .val (.ref kd), .val (.int ((p3 >>> ((3 : Int32) &&& 31)) &&& (3 : Int32))), .val (.ref fo), .val (.int car), .val (.ref q), .val (.int art), .val (.ref a2), .unset, .unset] [(.ref q2)])) _
    refine XS.dup X29.here hx rfl (hb hby at_210) rfl rfl ?_
    show Steps p.tables e below (T29.setTop (mkF m 211 #[.val (.int p0), .val (.int p1), .val (.int p2), .val (.int p3), .val (.int (3 : Int32)), .val (.ref a), .val (.ref kd), .val (.int ((p3 >>> ((3 : Int32) &&& 31)) &&& (3 : Int32))), .val (.ref fo), .val (.int car), .val (.ref q), .val (.int art), .val (.ref a2), .unset, .unset] [(.ref q2), (.ref q2)])) _
    refine XS.iconst X29.here hx rfl (hb hby at_211) ?_
    show Steps p.tables e below (T29.setTop (mkF m 212 #[.val (.int p0), .val (.int p1), .val (.int p2), .val (.int p3), .val (.int (3 : Int32)), .val (.ref a), .val (.ref kd), .val (.int ((p3 >>> ((3 : Int32) &&& 31)) &&& (3 : Int32))), .val (.ref fo), .val (.int car), .val (.ref q), .val (.int art), .val (.ref a2), .unset, .unset] [(.int (1 : Int32)), (.ref q2), (.ref q2)])) _
    refine st30 _ ?_
    show Steps p.tables e below (T30.setTop (mkF m 215 #[.val (.int p0), .val (.int p1), .val (.int p2), .val (.int p3), .val (.int (3 : Int32)), .val (.ref a), .val (.ref kd), .val (.int ((p3 >>> ((3 : Int32) &&& 31)) &&& (3 : Int32))), .val (.ref fo), .val (.int car), .val (.ref q), .val (.int art), .val (.ref a2), .unset, .unset] [(.ref kA), (.int (1 : Int32)), (.ref q2), (.ref q2)])) _
    refine st31 _ ?_
    show Steps p.tables e below (T31.setTop (mkF m 217 #[.val (.int p0), .val (.int p1), .val (.int p2), .val (.int p3), .val (.int (3 : Int32)), .val (.ref a), .val (.ref kd), .val (.int ((p3 >>> ((3 : Int32) &&& 31)) &&& (3 : Int32))), .val (.ref fo), .val (.int car), .val (.ref q), .val (.int art), .val (.ref a2), .unset, .unset] [(.ref lit31), (.ref kA), (.int (1 : Int32)), (.ref q2), (.ref q2)])) _
    refine XS.aload X31.here hx rfl (hb hby at_217) rfl rfl ?_
    show Steps p.tables e below (T31.setTop (mkF m 219 #[.val (.int p0), .val (.int p1), .val (.int p2), .val (.int p3), .val (.int (3 : Int32)), .val (.ref a), .val (.ref kd), .val (.int ((p3 >>> ((3 : Int32) &&& 31)) &&& (3 : Int32))), .val (.ref fo), .val (.int car), .val (.ref q), .val (.int art), .val (.ref a2), .unset, .unset] [(.ref a2), (.ref lit31), (.ref kA), (.int (1 : Int32)), (.ref q2), (.ref q2)])) _
    refine st32 _ ?_
    show Steps p.tables e below (T32.setTop (mkF m 221 #[.val (.int p0), .val (.int p1), .val (.int p2), .val (.int p3), .val (.int (3 : Int32)), .val (.ref a), .val (.ref kd), .val (.int ((p3 >>> ((3 : Int32) &&& 31)) &&& (3 : Int32))), .val (.ref fo), .val (.int car), .val (.ref q), .val (.int art), .val (.ref a2), .unset, .unset] [(.ref lit32), (.ref a2), (.ref lit31), (.ref kA), (.int (1 : Int32)), (.ref q2), (.ref q2)])) _
    refine XS.iconst X32.here hx rfl (hb hby at_221) ?_
    show Steps p.tables e below (T32.setTop (mkF m 222 #[.val (.int p0), .val (.int p1), .val (.int p2), .val (.int p3), .val (.int (3 : Int32)), .val (.ref a), .val (.ref kd), .val (.int ((p3 >>> ((3 : Int32) &&& 31)) &&& (3 : Int32))), .val (.ref fo), .val (.int car), .val (.ref q), .val (.int art), .val (.ref a2), .unset, .unset] [(.int (0 : Int32)), (.ref lit32), (.ref a2), (.ref lit31), (.ref kA), (.int (1 : Int32)), (.ref q2), (.ref q2)])) _
    refine st33 _ ?_
    show Steps p.tables e below (T33.setTop (mkF m 225 #[.val (.int p0), .val (.int p1), .val (.int p2), .val (.int p3), .val (.int (3 : Int32)), .val (.ref a), .val (.ref kd), .val (.int ((p3 >>> ((3 : Int32) &&& 31)) &&& (3 : Int32))), .val (.ref fo), .val (.int car), .val (.ref q), .val (.int art), .val (.ref a2), .unset, .unset] [(.ref f0), (.int (0 : Int32)), (.ref lit32), (.ref a2), (.ref lit31), (.ref kA), (.int (1 : Int32)), (.ref q2), (.ref q2)])) _
    refine st34.trans ?_
    show Steps p.tables e below (T34.setTop (mkF m 228 #[.val (.int p0), .val (.int p1), .val (.int p2), .val (.int p3), .val (.int (3 : Int32)), .val (.ref a), .val (.ref kd), .val (.int ((p3 >>> ((3 : Int32) &&& 31)) &&& (3 : Int32))), .val (.ref fo), .val (.int car), .val (.ref q), .val (.int art), .val (.ref a2), .unset, .unset] [(.ref q2)])) _
    refine XS.astore X34.here hx rfl (hb hby at_228) rfl rfl (l' := #[.val (.int p0), .val (.int p1), .val (.int p2), .val (.int p3), .val (.int (3 : Int32)), .val (.ref a), .val (.ref kd), .val (.int ((p3 >>> ((3 : Int32) &&& 31)) &&& (3 : Int32))), .val (.ref fo), .val (.int car), .val (.ref q), .val (.int art), .val (.ref a2), .val (.ref q2), .unset]) rfl ?_
    show Steps p.tables e below (T34.setTop (mkF m 230 #[.val (.int p0), .val (.int p1), .val (.int p2), .val (.int p3), .val (.int (3 : Int32)), .val (.ref a), .val (.ref kd), .val (.int ((p3 >>> ((3 : Int32) &&& 31)) &&& (3 : Int32))), .val (.ref fo), .val (.int car), .val (.ref q), .val (.int art), .val (.ref a2), .val (.ref q2), .unset] [])) _
    refine XS.aload X34.here hx rfl (hb hby at_230) rfl rfl ?_
    show Steps p.tables e below (T34.setTop (mkF m 232 #[.val (.int p0), .val (.int p1), .val (.int p2), .val (.int p3), .val (.int (3 : Int32)), .val (.ref a), .val (.ref kd), .val (.int ((p3 >>> ((3 : Int32) &&& 31)) &&& (3 : Int32))), .val (.ref fo), .val (.int car), .val (.ref q), .val (.int art), .val (.ref a2), .val (.ref q2), .unset] [(.ref kd)])) _
    refine st35 _ ?_
    refine st36 _ ?_
    show Steps p.tables e below (T36.setTop (mkF m 249 #[.val (.int p0), .val (.int p1), .val (.int p2), .val (.int p3), .val (.int (3 : Int32)), .val (.ref a), .val (.ref kd), .val (.int ((p3 >>> ((3 : Int32) &&& 31)) &&& (3 : Int32))), .val (.ref fo), .val (.int car), .val (.ref q), .val (.int art), .val (.ref a2), .val (.ref q2), .unset] [(.int eh)])) _
    refine XS.istore X36.here hx rfl (hb hby at_249) rfl (l' := #[.val (.int p0), .val (.int p1), .val (.int p2), .val (.int p3), .val (.int (3 : Int32)), .val (.ref a), .val (.ref kd), .val (.int ((p3 >>> ((3 : Int32) &&& 31)) &&& (3 : Int32))), .val (.ref fo), .val (.int car), .val (.ref q), .val (.int art), .val (.ref a2), .val (.ref q2), .val (.int eh)]) rfl ?_
    show Steps p.tables e below (T36.setTop (mkF m 251 #[.val (.int p0), .val (.int p1), .val (.int p2), .val (.int p3), .val (.int (3 : Int32)), .val (.ref a), .val (.ref kd), .val (.int ((p3 >>> ((3 : Int32) &&& 31)) &&& (3 : Int32))), .val (.ref fo), .val (.int car), .val (.ref q), .val (.int art), .val (.ref a2), .val (.ref q2), .val (.int eh)] [])) _
    refine XS.aload X36.here hx rfl (hb hby at_251) rfl rfl ?_
    show Steps p.tables e below (T36.setTop (mkF m 253 #[.val (.int p0), .val (.int p1), .val (.int p2), .val (.int p3), .val (.int (3 : Int32)), .val (.ref a), .val (.ref kd), .val (.int ((p3 >>> ((3 : Int32) &&& 31)) &&& (3 : Int32))), .val (.ref fo), .val (.int car), .val (.ref q), .val (.int art), .val (.ref a2), .val (.ref q2), .val (.int eh)] [(.ref q)])) _
    refine st38.trans ?_
    show Steps p.tables e below (T38.setTop (mkF m 256 #[.val (.int p0), .val (.int p1), .val (.int p2), .val (.int p3), .val (.int (3 : Int32)), .val (.ref a), .val (.ref kd), .val (.int ((p3 >>> ((3 : Int32) &&& 31)) &&& (3 : Int32))), .val (.ref fo), .val (.int car), .val (.ref q), .val (.int art), .val (.ref a2), .val (.ref q2), .val (.int eh)] [(.int p0)])) _
    refine XS.iloadN X38.here hx rfl (hb hby at_256) rfl ?_
    show Steps p.tables e below (T38.setTop (mkF m 257 #[.val (.int p0), .val (.int p1), .val (.int p2), .val (.int p3), .val (.int (3 : Int32)), .val (.ref a), .val (.ref kd), .val (.int ((p3 >>> ((3 : Int32) &&& 31)) &&& (3 : Int32))), .val (.ref fo), .val (.int car), .val (.ref q), .val (.int art), .val (.ref a2), .val (.ref q2), .val (.int eh)] [(.int p0), (.int p0)])) _
    refine XS.icmpNo X38.here hx rfl (hb hby at_257) rfl (teq (rfl : p0 = p0)).2 ?_
    show Steps p.tables e below (T38.setTop (mkF m 260 #[.val (.int p0), .val (.int p1), .val (.int p2), .val (.int p3), .val (.int (3 : Int32)), .val (.ref a), .val (.ref kd), .val (.int ((p3 >>> ((3 : Int32) &&& 31)) &&& (3 : Int32))), .val (.ref fo), .val (.int car), .val (.ref q), .val (.int art), .val (.ref a2), .val (.ref q2), .val (.int eh)] [])) _
    refine XS.aload X38.here hx rfl (hb hby at_260) rfl rfl ?_
    show Steps p.tables e below (T38.setTop (mkF m 262 #[.val (.int p0), .val (.int p1), .val (.int p2), .val (.int p3), .val (.int (3 : Int32)), .val (.ref a), .val (.ref kd), .val (.int ((p3 >>> ((3 : Int32) &&& 31)) &&& (3 : Int32))), .val (.ref fo), .val (.int car), .val (.ref q), .val (.int art), .val (.ref a2), .val (.ref q2), .val (.int eh)] [(.ref q2)])) _
    refine st39.trans ?_
    show Steps p.tables e below (T39.setTop (mkF m 265 #[.val (.int p0), .val (.int p1), .val (.int p2), .val (.int p3), .val (.int (3 : Int32)), .val (.ref a), .val (.ref kd), .val (.int ((p3 >>> ((3 : Int32) &&& 31)) &&& (3 : Int32))), .val (.ref fo), .val (.int car), .val (.ref q), .val (.int art), .val (.ref a2), .val (.ref q2), .val (.int eh)] [(.int art)])) _
    refine XS.iload X39.here hx rfl (hb hby at_265) rfl ?_
    show Steps p.tables e below (T39.setTop (mkF m 267 #[.val (.int p0), .val (.int p1), .val (.int p2), .val (.int p3), .val (.int (3 : Int32)), .val (.ref a), .val (.ref kd), .val (.int ((p3 >>> ((3 : Int32) &&& 31)) &&& (3 : Int32))), .val (.ref fo), .val (.int car), .val (.ref q), .val (.int art), .val (.ref a2), .val (.ref q2), .val (.int eh)] [(.int art), (.int art)])) _
    refine XS.icmpNo X39.here hx rfl (hb hby at_267) rfl (teq (rfl : art = art)).2 ?_
    show Steps p.tables e below (T39.setTop (mkF m 270 #[.val (.int p0), .val (.int p1), .val (.int p2), .val (.int p3), .val (.int (3 : Int32)), .val (.ref a), .val (.ref kd), .val (.int ((p3 >>> ((3 : Int32) &&& 31)) &&& (3 : Int32))), .val (.ref fo), .val (.int car), .val (.ref q), .val (.int art), .val (.ref a2), .val (.ref q2), .val (.int eh)] [])) _
    refine XS.aload X39.here hx rfl (hb hby at_270) rfl rfl ?_
    show Steps p.tables e below (T39.setTop (mkF m 272 #[.val (.int p0), .val (.int p1), .val (.int p2), .val (.int p3), .val (.int (3 : Int32)), .val (.ref a), .val (.ref kd), .val (.int ((p3 >>> ((3 : Int32) &&& 31)) &&& (3 : Int32))), .val (.ref fo), .val (.int car), .val (.ref q), .val (.int art), .val (.ref a2), .val (.ref q2), .val (.int eh)] [(.ref q2)])) _
    refine XS.aload X39.here hx rfl (hb hby at_272) rfl rfl ?_
    show Steps p.tables e below (T39.setTop (mkF m 274 #[.val (.int p0), .val (.int p1), .val (.int p2), .val (.int p3), .val (.int (3 : Int32)), .val (.ref a), .val (.ref kd), .val (.int ((p3 >>> ((3 : Int32) &&& 31)) &&& (3 : Int32))), .val (.ref fo), .val (.int car), .val (.ref q), .val (.int art), .val (.ref a2), .val (.ref q2), .val (.int eh)] [(.ref q), (.ref q2)])) _
    refine st40.trans ?_
    show Steps p.tables e below (T40.setTop (mkF m 277 #[.val (.int p0), .val (.int p1), .val (.int p2), .val (.int p3), .val (.int (3 : Int32)), .val (.ref a), .val (.ref kd), .val (.int ((p3 >>> ((3 : Int32) &&& 31)) &&& (3 : Int32))), .val (.ref fo), .val (.int car), .val (.ref q), .val (.int art), .val (.ref a2), .val (.ref q2), .val (.int eh)] [(.int rb1)])) _
    refine XS.iload X40.here hx rfl (hb hby at_277) rfl ?_
    show Steps p.tables e below (T40.setTop (mkF m 279 #[.val (.int p0), .val (.int p1), .val (.int p2), .val (.int p3), .val (.int (3 : Int32)), .val (.ref a), .val (.ref kd), .val (.int ((p3 >>> ((3 : Int32) &&& 31)) &&& (3 : Int32))), .val (.ref fo), .val (.int car), .val (.ref q), .val (.int art), .val (.ref a2), .val (.ref q2), .val (.int eh)] [(.int eh), (.int rb1)])) _
    refine XS.icmpNo X40.here hx rfl (hb hby at_279) rfl (teq (own_fin rel_rb1 hv36)).2 ?_
    show Steps p.tables e below (T40.setTop (mkF m 282 #[.val (.int p0), .val (.int p1), .val (.int p2), .val (.int p3), .val (.int (3 : Int32)), .val (.ref a), .val (.ref kd), .val (.int ((p3 >>> ((3 : Int32) &&& 31)) &&& (3 : Int32))), .val (.ref fo), .val (.int car), .val (.ref q), .val (.int art), .val (.ref a2), .val (.ref q2), .val (.int eh)] [])) _
    refine XS.iconst X40.here hx rfl (hb hby at_282) ?_
    show Steps p.tables e below (T40.setTop (mkF m 283 #[.val (.int p0), .val (.int p1), .val (.int p2), .val (.int p3), .val (.int (3 : Int32)), .val (.ref a), .val (.ref kd), .val (.int ((p3 >>> ((3 : Int32) &&& 31)) &&& (3 : Int32))), .val (.ref fo), .val (.int car), .val (.ref q), .val (.int art), .val (.ref a2), .val (.ref q2), .val (.int eh)] [(.int (1 : Int32))])) _
    refine XS.goto X40.here hx rfl (pc0 := 283) (pc' := 287) rfl (hb hby at_283) (by decide) (by decide) ?_
    show Steps p.tables e below (T40.setTop (mkF m 287 #[.val (.int p0), .val (.int p1), .val (.int p2), .val (.int p3), .val (.int (3 : Int32)), .val (.ref a), .val (.ref kd), .val (.int ((p3 >>> ((3 : Int32) &&& 31)) &&& (3 : Int32))), .val (.ref fo), .val (.int car), .val (.ref q), .val (.int art), .val (.ref a2), .val (.ref q2), .val (.int eh)] [(.int (1 : Int32))])) _
    exact retN X40 hx (t := .boolean) Bd.returns (by simp) (hb hby at_287) hr
  · show own_QL n0 _ T40.heap _
    rw [e40]
    exact ⟨rfl, N34⟩
theorem own_i32 {z k : Int32} (h : z.toInt = k.toInt) : z = k := Int32.toInt_inj.mp h
theorem own_k3 (p3 : Int32) : ((p3 &&& (3 : Int32)) % (3 : Int32)) = (0 : Int32) ∨ ((p3 &&& (3 : Int32)) % (3 : Int32)) = (1 : Int32) ∨ ((p3 &&& (3 : Int32)) % (3 : Int32)) = (2 : Int32) := by
  have h := c_and p3 (3 : Int32) (by decide)
  have h2 := (c_irem (p3 &&& (3 : Int32)) (3 : Int32) 3 (by decide)).1 h.1
  have hr : ((p3 &&& (3 : Int32)) % (3 : Int32)).toInt = 0 ∨ ((p3 &&& (3 : Int32)) % (3 : Int32)).toInt = 1 ∨ ((p3 &&& (3 : Int32)) % (3 : Int32)).toInt = 2 := by rw [h2]; omega
  rcases hr with q | q | q
  · exact Or.inl (own_i32 q)
  · exact Or.inr (Or.inl (own_i32 q))
  · exact Or.inr (Or.inr (own_i32 q))
theorem own_law (l : Launch) (Z : State) (a0 : Array Value) (hw : ∀ d ∈ tables_1, d.before a0 Z = true) (ws : List Jvm.Cond) (D : Addr) (cD : Cell) (ich : Addr) (icc : Cell) (kA : Addr) (kS : Addr) (f0 : Addr) (f1 : Addr) (f2 : Addr) (f3 : Addr) (p0 p1 p2 p3 : Int32) (h0 : Heap) (n0 : Nat) (O0 : Old Z n0 h0) (K : own_W Z D cD ich icc kA kS f0 f1 f2 f3) :
    MetFree l x (head1 (Jvm.Cond.code x code maxLocals ret :: ws) room_1) (fun a U => a = #[(.int p0), (.int p1), (.int p2), (.int p3)] ∧ Z.Warmed39 U.vm ∧ U.heap = h0) (fun _ _ _ _ _ => True) (fun _ U o U' => ∃ v L, o = .returned v ∧ own_QL n0 v U'.heap L ∧ ReturnedEndW U o U' L room_1.cells room_1.slots) := by
  rcases own_k3 p3 with hc | hc | hc
  · exact own_law0 l Z a0 hw ws D cD ich icc kA kS f0 f1 f2 f3 p0 p1 p2 p3 h0 n0 O0 K hc
  · exact own_law1 l Z a0 hw ws D cD ich icc kA kS f0 f1 f2 f3 p0 p1 p2 p3 h0 n0 O0 K hc
  · exact own_law2 l Z a0 hw ws D cD ich icc kA kS f0 f1 f2 f3 p0 p1 p2 p3 h0 n0 O0 K hc
theorem own_eqv {args : Array Value} {first s : State} {o : Option Outcome} {idx : List Nat} {t t' : Term} {k : Int32} (h : (Jvm.Cond.eq t t').value args first o s idx = some true) (ev : t'.eval args first o idx s = some (.int k)) : t.eval args first o idx s = some (.int k) := by
  simp only [Cond.value, ev] at h; cases ht : t.eval args first o idx s with | none => simp [ht] at h | some x => cases x <;> simp [ht] at h ⊢; exact h
theorem own_int {args : Array Value} {first s : State} {o : Option Outcome} {idx : List Nat} {t : Term} {k : Int32} (h : (Jvm.Cond.eq t (.int k)).value args first o s idx = some true) : t.eval args first o idx s = some (.int k) := by
  simp only [Cond.value, Term.eval] at h; cases ht : t.eval args first o idx s with | none => simp [ht] at h | some x => cases x <;> simp [ht] at h ⊢; exact h
theorem own_len {args : Array Value} {s : State} {t : Term} {a : Addr} {cl : Cell} {k : Int32} {n : Nat} (ht : t.eval args s none [] s = some (.ref a)) (hc : s.heap[a]? = some cl) (h : (Term.length t).eval args s none [] s = some (.int k)) (hk : k.toInt = n) : cl.slots.size = n := by
  obtain ⟨x, c', e1, e2, e3⟩ := Term.length_spec h
  cases ht.symm.trans e1
  cases hc.symm.trans (State.arrayAt?_spec e2).1
  have h31 := SBG.length_lt e1 e2 h
  rw [Value.int.inj e3, len_toInt h31] at hk
  omega
theorem own_all {args : Array Value} {s : State} {ich : Addr} {icc : Cell} (ev : (Jvm.Term.static "java/lang/Integer$IntegerCache" "cache" "[Ljava/lang/Integer;").eval args s none [] s = some (.ref ich)) (A : Arr s s.heap ich icc (.object "java/lang/Integer")) (z : icc.slots.size = 256) (h : (Jvm.Cond.all (Jvm.Term.static "java/lang/Integer$IntegerCache" "cache" "[Ljava/lang/Integer;") (Jvm.Cond.and (Jvm.Cond.exactly (Jvm.Term.elem (Jvm.Term.static "java/lang/Integer$IntegerCache" "cache" "[Ljava/lang/Integer;") (Jvm.Term.index 0)) "java/lang/Integer") (Jvm.Cond.eq (Jvm.Term.field (Jvm.Term.elem (Jvm.Term.static "java/lang/Integer$IntegerCache" "cache" "[Ljava/lang/Integer;") (Jvm.Term.index 0)) "java/lang/Integer" "value" "I") (Jvm.Term.sub (Jvm.Term.index 0) (Jvm.Term.int (128 : Int32)))))).before args s = true) : ∀ i, i < 256 → ∃ r, icc.slots[i]? = some (.ref r) ∧ Exa s s.heap r "java/lang/Integer" ∧ Fld s s.heap r "java/lang/Integer" "value" "I" (.int (Int32.ofNat i - (128 : Int32))) := by
  have h' := Cond.all_elim ev (Arr.fin (Vm.Alike.refl _) A) (Cond.before_iff.mp h)
  intro i hi
  obtain ⟨q1, q2⟩ := and_e (h' i (by rw [z]; exact hi))
  obtain ⟨r, er⟩ := exa_v q1
  obtain ⟨a', c', cell, k, e1, e2, e3, e4, e5, rfl, e7⟩ := Cond.exactly_spec (beq_iff_eq.mpr q1)
  cases er.symm.trans e1
  have q3 := (elem_in er (show _ = some (Value.ref ich) from ev) (show (Jvm.Term.index 0).eval args s none [i] s = some (.int i.toInt32) from rfl) A.1).2
  have e8 : (i.toInt32).toNatClampNeg = i := by simp only [Int32.toNatClampNeg, len_toInt (show i < 2 ^ 31 by omega)]; rfl
  rw [e8] at q3
  refine ⟨r, q3, ⟨cell, k, e3, e2, e4, e5, e7⟩, Fld.start ((fld_at er).symm.trans (own_eqv q2 rfl))⟩
set_option maxRecDepth 65536 in
set_option maxHeartbeats 40000000 in
theorem comes_1 {Post : Tables → Env → Array Value → State → Outcome → State → Prop} (hpost : ∀ tb e args s v u, (limb_1_1.after args s (.returned v) u = true ∧ limb_1_2.after args s (.returned v) u = true ∧ True) → ReturnedEndW s (.returned v) u (Jvm.fieldLocs frame_1_writes args s ++ Jvm.arrayLocs frame_1_arrays args s ++ Jvm.staticLocs frame_1_statics s) 32 2240 → Post tb e args s (.returned v) u) :
    ArmFor flags0 classFile x code maxLocals ret World_1 tables_1 room_1 Calls_1 rest_1 Pre_1 Post := by
  intro l hfl _ _ p e ha hc hk s m args below hf hA hF happ hP
  obtain ⟨hcalls, hrest, hpre⟩ := hP
  obtain ⟨-, -, -, hnamed, -, -, -, hat⟩ := (Spec.applies_iff hf).mp happ
  obtain ⟨hg, hn⟩ := and_e (Cond.before_iff.mp (show (Jvm.Cond.and given_1 narrow_1).before args s = true from hpre))
  obtain ⟨g0, hg⟩ := and_e hg
  obtain ⟨g1, hg⟩ := and_e hg
  obtain ⟨g2, hg⟩ := and_e hg
  obtain ⟨g3, hg⟩ := and_e hg
  have g4 := hg
  obtain ⟨w0, w1, w2, w3, rfl⟩ : ∃ w0 w1 w2 w3 : Value, args = #[w0, w1, w2, w3] := by
    have hs : args.size = 4 := by simpa [Cond.value, given_1] using g0
    obtain ⟨L⟩ := args
    match L, hs with
    | [w0, w1, w2, w3], _ => exact ⟨w0, w1, w2, w3, rfl⟩
  have hw := fun d (hd : d ∈ tables_1) => atoms_spec (ws := Jvm.Cond.code x code maxLocals ret :: tables_1) hat d (List.mem_cons_of_mem _ hd)
  obtain ⟨i0, ei0⟩ := is_v g1
  obtain rfl : w0 = (.int i0) := Option.some.inj ei0
  obtain ⟨i1, ei1⟩ := is_v g2
  obtain rfl : w1 = (.int i1) := Option.some.inj ei1
  obtain ⟨i2, ei2⟩ := is_v g3
  obtain rfl : w2 = (.int i2) := Option.some.inj ei2
  obtain ⟨i3, ei3⟩ := is_v g4
  obtain rfl : w3 = (.int i3) := Option.some.inj ei3
  obtain ⟨j0, hn⟩ := and_e hn
  obtain ⟨j1, hn⟩ := and_e hn
  obtain ⟨j2, hn⟩ := and_e hn
  obtain ⟨j3, hn⟩ := and_e hn
  obtain ⟨j4, hn⟩ := and_e hn
  obtain ⟨j5, hn⟩ := and_e hn
  obtain ⟨j6, hn⟩ := and_e hn
  have j7 := hn
  obtain ⟨hsets, hown0⟩ := atoms_of _ (rest_1_c_eq ▸ (show rest_1_c.before _ s = true from hrest))
  have jD := Cond.before_iff.mp (hsets _ (List.mem_of_getElem? (i := 6) rfl))
  obtain ⟨D, vD⟩ := arr_v jD
  obtain ⟨cD, AD⟩ := Arr.start vD jD
  have SD := Sta.start vD (Or.inr ⟨(hw _ (List.mem_of_getElem? (i := 2) rfl)), (hsets _ (List.mem_of_getElem? (i := 2) rfl))⟩)
  have zD : cD.slots.size = 0 := own_len vD AD.1 (own_int (Cond.before_iff.mp (hsets _ (List.mem_of_getElem? (i := 8) rfl)))) (by decide)
  have SH := Sta.start (own_int (Cond.before_iff.mp (hsets _ (List.mem_of_getElem? (i := 12) rfl)))) (Or.inl (hsets _ (List.mem_of_getElem? (i := 10) rfl)))
  have jC := Cond.before_iff.mp (hsets _ (List.mem_of_getElem? (i := 13) rfl))
  obtain ⟨ich, vC⟩ := arr_v jC
  obtain ⟨icc, AC⟩ := Arr.start vC jC
  have SC := Sta.start vC (Or.inr ⟨(hw _ (List.mem_of_getElem? (i := 31) rfl)), (hsets _ (List.mem_of_getElem? (i := 11) rfl))⟩)
  have zC : icc.slots.size = 256 := own_len vC AC.1 (own_int (Cond.before_iff.mp (hsets _ (List.mem_of_getElem? (i := 15) rfl)))) (by decide)
  have hC := own_all vC AC zC (hsets _ (List.mem_of_getElem? (i := 16) rfl))
  obtain ⟨kA, v_kA⟩ := exa_v j0
  have SA := Sta.start v_kA (Or.inr ⟨(hw _ (List.mem_of_getElem? (i := 69) rfl)), (hw _ (List.mem_of_getElem? (i := 70) rfl))⟩)
  have FA := Fld.start ((fld_at v_kA).symm.trans (own_int j3))
  obtain ⟨kS, v_kS⟩ := exa_v j2
  have SS := Sta.start v_kS (Or.inr ⟨(hw _ (List.mem_of_getElem? (i := 69) rfl)), (hw _ (List.mem_of_getElem? (i := 110) rfl))⟩)
  have FS := Fld.start ((fld_at v_kS).symm.trans (own_int j4))
  obtain ⟨f0, v_f0⟩ := exa_v j1
  have S0 := Sta.start v_f0 (Or.inr ⟨(hw _ (List.mem_of_getElem? (i := 72) rfl)), (hw _ (List.mem_of_getElem? (i := 73) rfl))⟩)
  obtain ⟨f1, v_f1⟩ := exa_v j5
  have S1 := Sta.start v_f1 (Or.inr ⟨(hw _ (List.mem_of_getElem? (i := 72) rfl)), (hw _ (List.mem_of_getElem? (i := 154) rfl))⟩)
  obtain ⟨f2, v_f2⟩ := exa_v j6
  have S2 := Sta.start v_f2 (Or.inr ⟨(hw _ (List.mem_of_getElem? (i := 72) rfl)), (hw _ (List.mem_of_getElem? (i := 169) rfl))⟩)
  obtain ⟨f3, v_f3⟩ := exa_v j7
  have S3 := Sta.start v_f3 (Or.inr ⟨(hw _ (List.mem_of_getElem? (i := 72) rfl)), (hw _ (List.mem_of_getElem? (i := 171) rfl))⟩)
  obtain ⟨n, o, h1, h2, h3, _, L, rfl, ⟨rfl, N⟩, hq⟩ := own_law l s _ hw tables_1 D cD ich icc kA kS f0 f1 f2 f3 i0 i1 i2 i3 s.heap s.heap.size (Old.start s) ⟨SD, AD, zD, SH, SC, AC, zC, hC, SA, SS, Fld.ne FA FS (fun q => absurd (Value.int.inj q) (by decide)), S0, S1, S2, S3⟩ p e ha hc hk s m _ below hf ((Spec.applies_iff_loose hf).mp happ).1 ⟨rfl, State.Warmed39.refl s, rfl⟩ trivial
  refine ⟨n, _, h1, h2, h3, hpost _ _ _ _ _ _ ⟨Cond.after_iff.mpr rfl, Cond.after_iff.mpr (eq_i res_at (Term.int_eval (1)) rfl), trivial⟩ ⟨hq.1, hq.2.1, hq.2.2.1, (hq.2.2.2.sift fun y hy => Or.inr (N y hy)).mono (by decide) (by decide)⟩⟩
theorem main_1_1 : Claimed_1_1 := comes_1 fun _ _ _ _ _ _ h hF => ⟨h.1, hF⟩
theorem main_1_2 : Claimed_1_2 := comes_1 fun _ _ _ _ _ _ h hF => ⟨h.2.1, hF⟩
end Jvm.Pilot.@@N@@
namespace Jvm.Pilot.@@N@@
open Jvm Jvm.ClassFile Sem Op Lib Jvm.Free Jvm.Stand Jvm.Pilot.@@N@@.Jvm.D
/-! MADE BY PROGRAM (witnessworld.py) out of the Statement's table words and the real class files: 34 classes; the members and pool entries that the words name. The judged class is class 1, her method 1. -/
namespace start1
open Jvm.ClassFile
def u (s : String) : CpInfo := .utf8 (stringToUtf16 s)
/-- a pool by its gaps: so many unusable entries, then the entry; so many at the end -/
def gap : Nat → List CpInfo → List CpInfo
  | 0, r => r
  | n + 1, r => .unusable :: gap n r
def poolList (es : List (Nat × CpInfo)) (last : Nat) : List CpInfo := es.foldr (fun e r => gap e.1 (e.2 :: r)) (gap last [])
def pool (es : List (Nat × CpInfo)) (last : Nat) : Array CpInfo := ⟨poolList es last⟩
def fileOf (pool : Array CpInfo) (this : Nat) (attrs : Array Attribute := #[]) (ms : Array MethodInfo := #[]) (fl : Nat := 33) (sup : Nat := 0) (ifs : Array Nat := #[]) (fds : Array FieldInfo := #[]) : ClassFile where
  minorVersion := 0
  majorVersion := 65
  constantPool := pool
  accessFlags := fl
  thisClass := this
  superClass := sup
  interfaces := ifs
  fields := fds
  methods := ms
  attributes := attrs
def plain (name : String) (sup : Option ClassId) : Class where
  name := name
  kind := .ordinary
  loader := none
  accessFlags := 33
  super := sup
  interfaces := #[]
  cf := none
  fields := #[]
  methods := #[]
  instanceTypes := #[]
  staticTypes := #[]
  resolved := #[]
  callSites := []
  init := .initialized
  statics := none
  mirror := none

def pool0 : Array CpInfo := pool [(5, u "<init>"), (0, u "()V"), (1, .class_ 10), (1, u "java/lang/Object")] 113

def k0c0 : Code := { maxStack := 0, maxLocals := 1, code := object_method_1_code, exceptionTable := #[], attributes := #[] }
def k0m0 : Method := { name := "<init>", desc := "()V", sig := { parameters := [], returnType := none }, accessFlags := 1, code := some k0c0 }
/-- java/lang/Object -/
def k0 : Class := { plain "java/lang/Object" none with
  accessFlags := 33
  interfaces := #[]
  cf := some (fileOf pool0 8 #[] #[{ accessFlags := 1, nameIndex := 5, descriptorIndex := 6, attributes := #[] }] 33 0 #[] #[])
  fields := #[]
  methods := #[k0m0]
  instanceTypes := #[]
  staticTypes := #[]
  resolved := Array.replicate 124 none
  statics := none }

def pool1 : Array CpInfo := pool [(2, .class_ 4), (0, .nameAndType 5 6), (0, u "java/lang/Object"), (0, u "<init>"), (0, u "()V"), (0, .class_ 8), (0, u "java/util/ArrayList"), (0, .methodref 7 3), (0, .methodref 11 12), (0, .class_ 13), (0, .nameAndType 14 15), (0, u "java/lang/Integer"), (0, u "valueOf"), (0, u "(I)Ljava/lang/Integer;"), (0, .interfaceMethodref 17 18), (0, .class_ 19), (0, .nameAndType 20 21), (0, u "java/util/List"), (0, u "add"), (0, u "(Ljava/lang/Object;)Z"), (0, .fieldref 23 24), (0, .class_ 25), (0, .nameAndType 26 27), (0, u "com/example/witnesseth/witnesseth/Heading$Kind"), (0, u "SECTION"), (0, u "Lcom/example/witnesseth/witnesseth/Heading$Kind;"), (0, .fieldref 23 29), (0, .nameAndType 30 27), (0, u "ARTICLE"), (0, .fieldref 32 33), (0, .class_ 34), (0, .nameAndType 30 35), (0, u "com/example/witnesseth/witnesseth/HeadingLine$Form"), (0, u "Lcom/example/witnesseth/witnesseth/HeadingLine$Form;"), (0, .fieldref 32 37), (0, .nameAndType 26 35), (0, .fieldref 32 39), (0, .nameAndType 40 35), (0, u "BARE"), (0, .fieldref 32 42), (0, .nameAndType 43 35), (0, u "NUMBERED"), (0, .class_ 45), (0, u "com/example/witnesseth/witnesseth/HeadingLine"), (0, .string 47), (0, u "1"), (0, .string 49), (0, u ""), (0, .methodref 44 51), (0, .nameAndType 5 52), (0, u "(ILcom/example/witnesseth/witnesseth/Heading$Kind;Ljava/lang/String;Ljava/util/List;Ljava/lang/String;ZLcom/example/witnesseth/witnesseth/HeadingLine$Form;)V"), (0, .methodref 44 54), (0, .nameAndType 55 56), (0, u "article"), (0, u "()I"), (0, .methodref 44 58), (0, .nameAndType 59 60), (0, u "holds"), (0, u "(Lcom/example/witnesseth/witnesseth/HeadingLine;)Z"), (0, .class_ 62), (0, u "com/example/witnesseth/witnesseth/HeadingLineArticlePinLaw"), (2, u "law"), (0, u "(IIII)Z")] 8

def k1m0 : Method := { name := "<init>", desc := "()V", sig := { parameters := [], returnType := none }, accessFlags := 1, code := none }
def k1c1 : Code := { maxStack := 9, maxLocals := 15, code := code, exceptionTable := #[], attributes := #[] }
def k1m1 : Method := { name := "law", desc := "(IIII)Z", sig := { parameters := [.int, .int, .int, .int], returnType := some .boolean }, accessFlags := 9, code := some k1c1 }
/-- com/example/witnesseth/witnesseth/HeadingLineArticlePinLaw -/
def k1 : Class := { plain "com/example/witnesseth/witnesseth/HeadingLineArticlePinLaw" (some 0) with
  accessFlags := 49
  interfaces := #[]
  cf := some (fileOf pool1 61 #[] #[{ accessFlags := 1, nameIndex := 5, descriptorIndex := 6, attributes := #[] }, { accessFlags := 9, nameIndex := 65, descriptorIndex := 66, attributes := #[] }] 49 2 #[] #[])
  fields := #[]
  methods := #[k1m0, k1m1]
  instanceTypes := #[]
  staticTypes := #[]
  resolved := Array.replicate 75 none
  statics := none }

def pool2 : Array CpInfo := pool [(8, .class_ 10), (1, u "java/lang/Iterable"), (24, .class_ 36), (0, u "java/lang/Object")] 25

/-- java/lang/Iterable -/
def k2 : Class := { plain "java/lang/Iterable" (some 0) with
  accessFlags := 1537
  interfaces := #[]
  cf := some (fileOf pool2 8 #[] #[] 1537 35 #[] #[])
  fields := #[]
  methods := #[]
  instanceTypes := #[]
  staticTypes := #[]
  resolved := Array.replicate 62 none
  statics := none }

def pool3 : Array CpInfo := pool [(10, .class_ 12), (1, u "java/util/Collection"), (47, .class_ 61), (0, u "java/lang/Object"), (0, .class_ 63), (0, u "java/lang/Iterable")] 51

/-- java/util/Collection -/
def k3 : Class := { plain "java/util/Collection" (some 0) with
  accessFlags := 1537
  interfaces := #[2]
  cf := some (fileOf pool3 10 #[] #[] 1537 60 #[62] #[])
  fields := #[]
  methods := #[]
  instanceTypes := #[]
  staticTypes := #[]
  resolved := Array.replicate 115 none
  statics := none }

def pool4 : Array CpInfo := pool [(1, .methodref 2 3), (0, .class_ 4), (0, .nameAndType 5 6), (0, u "java/lang/Object"), (0, u "<init>"), (0, u "()V"), (1, .class_ 10), (1, u "java/util/AbstractCollection"), (66, .class_ 78), (0, u "java/util/Collection")] 81

def k4c0 : Code := { maxStack := 1, maxLocals := 1, code := jdk_22_method_1_code, exceptionTable := #[], attributes := #[] }
def k4m0 : Method := { name := "<init>", desc := "()V", sig := { parameters := [], returnType := none }, accessFlags := 4, code := some k4c0 }
/-- java/util/AbstractCollection -/
def k4 : Class := { plain "java/util/AbstractCollection" (some 0) with
  accessFlags := 1057
  interfaces := #[3]
  cf := some (fileOf pool4 8 #[] #[{ accessFlags := 4, nameIndex := 5, descriptorIndex := 6, attributes := #[] }] 1057 2 #[77] #[])
  fields := #[]
  methods := #[k4m0]
  instanceTypes := #[]
  staticTypes := #[]
  resolved := Array.replicate 160 none
  statics := none }

def pool5 : Array CpInfo := pool [(8, .class_ 10), (1, u "java/util/SequencedCollection"), (15, .class_ 27), (0, u "java/lang/Object"), (0, .class_ 29), (0, u "java/util/Collection")] 27

/-- java/util/SequencedCollection -/
def k5 : Class := { plain "java/util/SequencedCollection" (some 0) with
  accessFlags := 1537
  interfaces := #[3]
  cf := some (fileOf pool5 8 #[] #[] 1537 26 #[28] #[])
  fields := #[]
  methods := #[]
  instanceTypes := #[]
  staticTypes := #[]
  resolved := Array.replicate 57 none
  statics := none }

def pool6 : Array CpInfo := pool [(8, .class_ 10), (1, u "java/util/List"), (49, u "add"), (3, u "(Ljava/lang/Object;)Z"), (10, u "get"), (0, u "(I)Ljava/lang/Object;"), (26, .class_ 104), (0, u "java/lang/Object"), (15, .class_ 121), (0, u "java/util/SequencedCollection")] 129

def k6m0 : Method := { name := "add", desc := "(Ljava/lang/Object;)Z", sig := { parameters := [(.object "java/lang/Object")], returnType := some .boolean }, accessFlags := 1025, code := none }
def k6m1 : Method := { name := "get", desc := "(I)Ljava/lang/Object;", sig := { parameters := [.int], returnType := some (.object "java/lang/Object") }, accessFlags := 1025, code := none }
/-- java/util/List -/
def k6 : Class := { plain "java/util/List" (some 0) with
  accessFlags := 1537
  interfaces := #[5]
  cf := some (fileOf pool6 8 #[] #[{ accessFlags := 1025, nameIndex := 60, descriptorIndex := 64, attributes := #[] }, { accessFlags := 1025, nameIndex := 75, descriptorIndex := 76, attributes := #[] }] 1537 103 #[120] #[])
  fields := #[]
  methods := #[k6m0, k6m1]
  instanceTypes := #[]
  staticTypes := #[]
  resolved := Array.replicate 251 none
  statics := none }

def pool7 : Array CpInfo := pool [(1, .methodref 2 3), (0, .class_ 4), (0, .nameAndType 5 6), (0, u "java/util/AbstractCollection"), (0, u "<init>"), (0, u "()V"), (0, .fieldref 8 9), (0, .class_ 10), (0, .nameAndType 11 12), (0, u "java/util/AbstractList"), (0, u "modCount"), (0, u "I"), (64, .class_ 78), (0, u "java/util/AbstractList$Itr"), (3, .class_ 83), (0, u "java/util/AbstractList$ListItr"), (9, .class_ 94), (0, u "java/util/AbstractList$RandomAccessSubList"), (3, .class_ 99), (0, u "java/util/AbstractList$SubList"), (33, .class_ 134), (0, u "java/util/List"), (73, .class_ 209), (0, u "java/util/AbstractList$SubList$1"), (0, .class_ 211), (0, u "java/util/AbstractList$RandomAccessSpliterator")] 6

def k7c0 : Code := { maxStack := 2, maxLocals := 1, code := jdk_39_method_1_code, exceptionTable := #[], attributes := #[] }
def k7m0 : Method := { name := "<init>", desc := "()V", sig := { parameters := [], returnType := none }, accessFlags := 4, code := some k7c0 }
/-- java/util/AbstractList -/
def k7 : Class := { plain "java/util/AbstractList" (some 4) with
  accessFlags := 1057
  interfaces := #[6]
  cf := some (fileOf pool7 8 #[.nestMembers #[93, 98, 208, 210, 82, 77]] #[{ accessFlags := 4, nameIndex := 5, descriptorIndex := 6, attributes := #[] }] 1057 2 #[133] #[{ accessFlags := 132, nameIndex := 11, descriptorIndex := 12, attributes := #[] }])
  fields := #[{ name := "modCount", type := .int, accessFlags := 132, slot := 0, constantValue := 0 }]
  methods := #[k7m0]
  instanceTypes := #[.int]
  staticTypes := #[]
  resolved := Array.replicate 218 none
  statics := none }

def pool8 : Array CpInfo := pool [(1, .class_ 2), (0, u "java/util/RandomAccess"), (0, .class_ 4), (0, u "java/lang/Object")] 2

/-- java/util/RandomAccess -/
def k8 : Class := { plain "java/util/RandomAccess" (some 0) with
  accessFlags := 1537
  interfaces := #[]
  cf := some (fileOf pool8 1 #[] #[] 1537 3 #[] #[])
  fields := #[]
  methods := #[]
  instanceTypes := #[]
  staticTypes := #[]
  resolved := Array.replicate 7 none
  statics := none }

def pool9 : Array CpInfo := pool [(1, .class_ 2), (0, u "java/lang/Cloneable"), (0, .class_ 4), (0, u "java/lang/Object")] 2

/-- java/lang/Cloneable -/
def k9 : Class := { plain "java/lang/Cloneable" (some 0) with
  accessFlags := 1537
  interfaces := #[]
  cf := some (fileOf pool9 1 #[] #[] 1537 3 #[] #[])
  fields := #[]
  methods := #[]
  instanceTypes := #[]
  staticTypes := #[]
  resolved := Array.replicate 7 none
  statics := none }

def pool10 : Array CpInfo := pool [(1, .class_ 2), (0, u "java/io/Serializable"), (0, .class_ 4), (0, u "java/lang/Object")] 2

/-- java/io/Serializable -/
def k10 : Class := { plain "java/io/Serializable" (some 0) with
  accessFlags := 1537
  interfaces := #[]
  cf := some (fileOf pool10 1 #[] #[] 1537 3 #[] #[])
  fields := #[]
  methods := #[]
  instanceTypes := #[]
  staticTypes := #[]
  resolved := Array.replicate 7 none
  statics := none }

def pool11 : Array CpInfo := pool [(1, .methodref 2 3), (0, .class_ 4), (0, .nameAndType 5 6), (0, u "java/util/AbstractList"), (0, u "<init>"), (0, u "()V"), (0, .class_ 8), (0, u "java/lang/Object"), (0, .fieldref 10 11), (0, .class_ 12), (0, .nameAndType 13 14), (0, u "java/util/ArrayList"), (0, u "elementData"), (0, u "[Ljava/lang/Object;"), (2, u "EMPTY_ELEMENTDATA"), (21, .fieldref 10 40), (0, .nameAndType 41 14), (0, u "DEFAULTCAPACITY_EMPTY_ELEMENTDATA"), (5, u "()[Ljava/lang/Object;"), (0, .fieldref 10 49), (0, .nameAndType 50 51), (0, u "size"), (0, u "I"), (11, .fieldref 10 64), (0, .nameAndType 65 51), (0, u "modCount"), (3, .methodref 10 70), (0, .nameAndType 71 72), (0, u "grow"), (0, u "(I)[Ljava/lang/Object;"), (6, .methodref 80 81), (0, .class_ 82), (0, .nameAndType 83 84), (0, u "java/lang/Math"), (0, u "max"), (0, u "(II)I"), (11, u "(Ljava/lang/Object;)Z"), (21, .methodref 119 120), (0, .class_ 121), (0, .nameAndType 122 84), (0, u "java/util/Objects"), (0, u "checkIndex"), (0, .methodref 10 124), (0, .nameAndType 13 125), (0, u "(I)Ljava/lang/Object;"), (3, .methodref 10 130), (0, .nameAndType 71 47), (0, .methodref 10 132), (0, .nameAndType 133 134), (0, u "add"), (0, u "(Ljava/lang/Object;[Ljava/lang/Object;I)V"), (13, .class_ 149), (0, u "java/util/List"), (112, .class_ 263), (0, u "java/util/ArrayList$ListItr"), (3, .class_ 268), (0, u "java/util/ArrayList$Itr"), (7, .class_ 277), (0, u "java/util/ArrayList$SubList"), (12, .class_ 291), (0, u "java/util/ArrayList$ArrayListSpliterator"), (37, .class_ 330), (0, u "java/util/RandomAccess"), (0, .class_ 332), (0, u "java/lang/Cloneable"), (0, .class_ 334), (0, u "java/io/Serializable"), (0, u "serialVersionUID"), (0, u "J"), (3, u "DEFAULT_CAPACITY"), (40, u "get"), (118, .class_ 501), (0, u "java/util/ArrayList$SubList$2"), (0, .class_ 503), (0, u "java/util/ArrayList$SubList$1")] 5

def k11c0 : Code := { maxStack := 2, maxLocals := 1, code := jdk_38_method_2_code, exceptionTable := #[], attributes := #[] }
def k11m0 : Method := { name := "<init>", desc := "()V", sig := { parameters := [], returnType := none }, accessFlags := 1, code := some k11c0 }
def k11c1 : Code := { maxStack := 4, maxLocals := 4, code := jdk_38_method_6_code, exceptionTable := #[], attributes := #[] }
def k11m1 : Method := { name := "grow", desc := "(I)[Ljava/lang/Object;", sig := { parameters := [.int], returnType := some (.array (.object "java/lang/Object")) }, accessFlags := 2, code := some k11c1 }
def k11c2 : Code := { maxStack := 3, maxLocals := 1, code := jdk_38_method_7_code, exceptionTable := #[], attributes := #[] }
def k11m2 : Method := { name := "grow", desc := "()[Ljava/lang/Object;", sig := { parameters := [], returnType := some (.array (.object "java/lang/Object")) }, accessFlags := 2, code := some k11c2 }
def k11c3 : Code := { maxStack := 2, maxLocals := 2, code := jdk_38_method_18_code, exceptionTable := #[], attributes := #[] }
def k11m3 : Method := { name := "elementData", desc := "(I)Ljava/lang/Object;", sig := { parameters := [.int], returnType := some (.object "java/lang/Object") }, accessFlags := 0, code := some k11c3 }
def k11c4 : Code := { maxStack := 2, maxLocals := 2, code := jdk_38_method_20_code, exceptionTable := #[], attributes := #[] }
def k11m4 : Method := { name := "get", desc := "(I)Ljava/lang/Object;", sig := { parameters := [.int], returnType := some (.object "java/lang/Object") }, accessFlags := 1, code := some k11c4 }
def k11c5 : Code := { maxStack := 3, maxLocals := 4, code := jdk_38_method_24_code, exceptionTable := #[], attributes := #[] }
def k11m5 : Method := { name := "add", desc := "(Ljava/lang/Object;[Ljava/lang/Object;I)V", sig := { parameters := [(.object "java/lang/Object"), (.array (.object "java/lang/Object")), .int], returnType := none }, accessFlags := 2, code := some k11c5 }
def k11c6 : Code := { maxStack := 4, maxLocals := 2, code := jdk_38_method_25_code, exceptionTable := #[], attributes := #[] }
def k11m6 : Method := { name := "add", desc := "(Ljava/lang/Object;)Z", sig := { parameters := [(.object "java/lang/Object")], returnType := some .boolean }, accessFlags := 1, code := some k11c6 }
/-- java/util/ArrayList -/
def k11 : Class := { plain "java/util/ArrayList" (some 7) with
  accessFlags := 33
  interfaces := #[6, 8, 9, 10]
  cf := some (fileOf pool11 10 #[.nestMembers #[290, 276, 500, 502, 262, 267]] #[{ accessFlags := 1, nameIndex := 5, descriptorIndex := 6, attributes := #[] }, { accessFlags := 2, nameIndex := 71, descriptorIndex := 72, attributes := #[] }, { accessFlags := 2, nameIndex := 71, descriptorIndex := 47, attributes := #[] }, { accessFlags := 0, nameIndex := 13, descriptorIndex := 125, attributes := #[] }, { accessFlags := 1, nameIndex := 381, descriptorIndex := 125, attributes := #[] }, { accessFlags := 2, nameIndex := 133, descriptorIndex := 134, attributes := #[] }, { accessFlags := 1, nameIndex := 133, descriptorIndex := 96, attributes := #[] }] 33 2 #[148, 329, 331, 333] #[{ accessFlags := 26, nameIndex := 335, descriptorIndex := 336, attributes := #[] }, { accessFlags := 26, nameIndex := 340, descriptorIndex := 51, attributes := #[] }, { accessFlags := 26, nameIndex := 17, descriptorIndex := 14, attributes := #[] }, { accessFlags := 26, nameIndex := 41, descriptorIndex := 14, attributes := #[] }, { accessFlags := 128, nameIndex := 13, descriptorIndex := 14, attributes := #[] }, { accessFlags := 2, nameIndex := 50, descriptorIndex := 51, attributes := #[] }])
  fields := #[{ name := "serialVersionUID", type := .long, accessFlags := 26, slot := 0, constantValue := 0 }, { name := "DEFAULT_CAPACITY", type := .int, accessFlags := 26, slot := 1, constantValue := 0 }, { name := "EMPTY_ELEMENTDATA", type := (.array (.object "java/lang/Object")), accessFlags := 26, slot := 2, constantValue := 0 }, { name := "DEFAULTCAPACITY_EMPTY_ELEMENTDATA", type := (.array (.object "java/lang/Object")), accessFlags := 26, slot := 3, constantValue := 0 }, { name := "elementData", type := (.array (.object "java/lang/Object")), accessFlags := 128, slot := 1, constantValue := 0 }, { name := "size", type := .int, accessFlags := 2, slot := 2, constantValue := 0 }]
  methods := #[k11m0, k11m1, k11m2, k11m3, k11m4, k11m5, k11m6]
  instanceTypes := #[.int, (.array (.object "java/lang/Object")), .int]
  staticTypes := #[.long, .int, (.array (.object "java/lang/Object")), (.array (.object "java/lang/Object"))]
  resolved := Array.replicate 509 none
  statics := some 0 }

def pool12 : Array CpInfo := pool [(1, .methodref 2 3), (0, .class_ 4), (0, .nameAndType 5 6), (0, u "java/lang/Object"), (0, u "<init>"), (0, u "()V"), (1, .class_ 10), (1, u "java/lang/Number"), (2, .class_ 14), (0, u "java/io/Serializable"), (0, u "serialVersionUID"), (0, u "J")] 20

def k12c0 : Code := { maxStack := 1, maxLocals := 1, code := jdk_18_method_1_code, exceptionTable := #[], attributes := #[] }
def k12m0 : Method := { name := "<init>", desc := "()V", sig := { parameters := [], returnType := none }, accessFlags := 1, code := some k12c0 }
/-- java/lang/Number -/
def k12 : Class := { plain "java/lang/Number" (some 0) with
  accessFlags := 1057
  interfaces := #[10]
  cf := some (fileOf pool12 8 #[] #[{ accessFlags := 1, nameIndex := 5, descriptorIndex := 6, attributes := #[] }] 1057 2 #[13] #[{ accessFlags := 26, nameIndex := 15, descriptorIndex := 16, attributes := #[] }])
  fields := #[{ name := "serialVersionUID", type := .long, accessFlags := 26, slot := 0, constantValue := 0 }]
  methods := #[k12m0]
  instanceTypes := #[]
  staticTypes := #[.long]
  resolved := Array.replicate 37 none
  statics := none }

def pool13 : Array CpInfo := pool [(1, .class_ 2), (0, u "java/lang/Comparable"), (0, .class_ 4), (0, u "java/lang/Object")] 7

/-- java/lang/Comparable -/
def k13 : Class := { plain "java/lang/Comparable" (some 0) with
  accessFlags := 1537
  interfaces := #[]
  cf := some (fileOf pool13 1 #[] #[] 1537 3 #[] #[])
  fields := #[]
  methods := #[]
  instanceTypes := #[]
  staticTypes := #[]
  resolved := Array.replicate 12 none
  statics := none }

def pool14 : Array CpInfo := pool [(1, .class_ 2), (0, u "java/lang/constant/Constable"), (0, .class_ 4), (0, u "java/lang/Object")] 6

/-- java/lang/constant/Constable -/
def k14 : Class := { plain "java/lang/constant/Constable" (some 0) with
  accessFlags := 1537
  interfaces := #[]
  cf := some (fileOf pool14 1 #[] #[] 1537 3 #[] #[])
  fields := #[]
  methods := #[]
  instanceTypes := #[]
  staticTypes := #[]
  resolved := Array.replicate 11 none
  statics := none }

def pool15 : Array CpInfo := pool [(1, .class_ 2), (0, u "java/lang/constant/ConstantDesc"), (0, .class_ 4), (0, u "java/lang/Object")] 32

/-- java/lang/constant/ConstantDesc -/
def k15 : Class := { plain "java/lang/constant/ConstantDesc" (some 0) with
  accessFlags := 1537
  interfaces := #[]
  cf := some (fileOf pool15 1 #[] #[] 1537 3 #[] #[])
  fields := #[]
  methods := #[]
  instanceTypes := #[]
  staticTypes := #[]
  resolved := Array.replicate 37 none
  statics := none }

def pool16 : Array CpInfo := pool [(1, .class_ 2), (0, u "java/lang/Integer"), (16, u "digits"), (0, u "[C"), (46, u "<init>"), (17, u "DigitOnes"), (0, u "[B"), (2, u "DigitTens"), (10, .nameAndType 67 101), (0, u "()V"), (19, u "()I"), (65, u "valueOf"), (0, u "(I)Ljava/lang/Integer;"), (0, .class_ 190), (0, u "java/lang/Integer$IntegerCache"), (0, .fieldref 189 192), (0, .nameAndType 193 194), (0, u "high"), (0, u "I"), (0, .fieldref 189 196), (0, .nameAndType 197 198), (0, u "cache"), (0, u "[Ljava/lang/Integer;"), (0, .methodref 1 200), (0, .nameAndType 67 201), (0, u "(I)V"), (0, .methodref 203 100), (0, .class_ 204), (0, u "java/lang/Number"), (0, .fieldref 1 206), (0, .nameAndType 207 194), (0, u "value"), (5, u "intValue"), (88, u "TYPE"), (0, u "Ljava/lang/Class;"), (0, .class_ 305), (0, u "java/lang/Comparable"), (0, .class_ 307), (0, u "java/lang/constant/Constable"), (0, .class_ 309), (0, u "java/lang/constant/ConstantDesc"), (0, u "MIN_VALUE"), (1, u "MAX_VALUE"), (3, u "SIZE"), (1, u "BYTES"), (1, u "serialVersionUID"), (0, u "J")] 131

def k16c0 : Code := { maxStack := 3, maxLocals := 1, code := jdk_33_method_22_code, exceptionTable := #[], attributes := #[] }
def k16m0 : Method := { name := "valueOf", desc := "(I)Ljava/lang/Integer;", sig := { parameters := [.int], returnType := some (.object "java/lang/Integer") }, accessFlags := 9, code := some k16c0 }
def k16c1 : Code := { maxStack := 2, maxLocals := 2, code := jdk_33_method_23_code, exceptionTable := #[], attributes := #[] }
def k16m1 : Method := { name := "<init>", desc := "(I)V", sig := { parameters := [.int], returnType := none }, accessFlags := 1, code := some k16c1 }
def k16c2 : Code := { maxStack := 1, maxLocals := 1, code := jdk_33_method_27_code, exceptionTable := #[], attributes := #[] }
def k16m2 : Method := { name := "intValue", desc := "()I", sig := { parameters := [], returnType := some .int }, accessFlags := 1, code := some k16c2 }
/-- java/lang/Integer -/
def k16 : Class := { plain "java/lang/Integer" (some 12) with
  accessFlags := 49
  interfaces := #[13, 14, 15]
  cf := some (fileOf pool16 1 #[.nestMembers #[189]] #[{ accessFlags := 9, nameIndex := 187, descriptorIndex := 188, attributes := #[] }, { accessFlags := 1, nameIndex := 67, descriptorIndex := 201, attributes := #[] }, { accessFlags := 1, nameIndex := 213, descriptorIndex := 121, attributes := #[] }] 49 203 #[304, 306, 308] #[{ accessFlags := 25, nameIndex := 310, descriptorIndex := 194, attributes := #[] }, { accessFlags := 25, nameIndex := 312, descriptorIndex := 194, attributes := #[] }, { accessFlags := 25, nameIndex := 302, descriptorIndex := 303, attributes := #[] }, { accessFlags := 24, nameIndex := 19, descriptorIndex := 20, attributes := #[] }, { accessFlags := 24, nameIndex := 89, descriptorIndex := 86, attributes := #[] }, { accessFlags := 24, nameIndex := 85, descriptorIndex := 86, attributes := #[] }, { accessFlags := 18, nameIndex := 207, descriptorIndex := 194, attributes := #[] }, { accessFlags := 25, nameIndex := 316, descriptorIndex := 194, attributes := #[] }, { accessFlags := 25, nameIndex := 318, descriptorIndex := 194, attributes := #[] }, { accessFlags := 26, nameIndex := 320, descriptorIndex := 321, attributes := #[] }])
  fields := #[{ name := "MIN_VALUE", type := .int, accessFlags := 25, slot := 0, constantValue := 0 }, { name := "MAX_VALUE", type := .int, accessFlags := 25, slot := 1, constantValue := 0 }, { name := "TYPE", type := (.object "java/lang/Class"), accessFlags := 25, slot := 2, constantValue := 0 }, { name := "digits", type := (.array .char), accessFlags := 24, slot := 3, constantValue := 0 }, { name := "DigitTens", type := (.array .byte), accessFlags := 24, slot := 4, constantValue := 0 }, { name := "DigitOnes", type := (.array .byte), accessFlags := 24, slot := 5, constantValue := 0 }, { name := "value", type := .int, accessFlags := 18, slot := 0, constantValue := 0 }, { name := "SIZE", type := .int, accessFlags := 25, slot := 6, constantValue := 0 }, { name := "BYTES", type := .int, accessFlags := 25, slot := 7, constantValue := 0 }, { name := "serialVersionUID", type := .long, accessFlags := 26, slot := 8, constantValue := 0 }]
  methods := #[k16m0, k16m1, k16m2]
  instanceTypes := #[.int]
  staticTypes := #[.int, .int, (.object "java/lang/Class"), (.array .char), (.array .byte), (.array .byte), .int, .int, .long]
  resolved := Array.replicate 453 none
  statics := none }

def pool17 : Array CpInfo := pool [(2, .class_ 4), (1, u "java/lang/Object"), (0, u "<init>"), (0, u "()V"), (0, .class_ 8), (0, u "java/lang/Integer"), (7, .class_ 18), (1, u "java/lang/Integer$IntegerCache"), (0, u "$assertionsDisabled"), (0, u "Z"), (26, u "high"), (0, u "I"), (8, u "archivedCache"), (0, u "[Ljava/lang/Integer;"), (12, u "cache"), (0, u "low")] 27

def k17m0 : Method := { name := "<init>", desc := "()V", sig := { parameters := [], returnType := none }, accessFlags := 2, code := none }
/-- java/lang/Integer$IntegerCache -/
def k17 : Class := { plain "java/lang/Integer$IntegerCache" (some 0) with
  accessFlags := 48
  interfaces := #[]
  cf := some (fileOf pool17 16 #[.nestHost 7] #[{ accessFlags := 2, nameIndex := 5, descriptorIndex := 6, attributes := #[] }] 48 2 #[] #[{ accessFlags := 24, nameIndex := 72, descriptorIndex := 48, attributes := #[] }, { accessFlags := 24, nameIndex := 47, descriptorIndex := 48, attributes := #[] }, { accessFlags := 24, nameIndex := 71, descriptorIndex := 58, attributes := #[] }, { accessFlags := 8, nameIndex := 57, descriptorIndex := 58, attributes := #[] }, { accessFlags := 4120, nameIndex := 19, descriptorIndex := 20, attributes := #[] }])
  fields := #[{ name := "low", type := .int, accessFlags := 24, slot := 0, constantValue := 0 }, { name := "high", type := .int, accessFlags := 24, slot := 1, constantValue := 0 }, { name := "cache", type := (.array (.object "java/lang/Integer")), accessFlags := 24, slot := 2, constantValue := 0 }, { name := "archivedCache", type := (.array (.object "java/lang/Integer")), accessFlags := 8, slot := 3, constantValue := 0 }, { name := "$assertionsDisabled", type := .boolean, accessFlags := 4120, slot := 4, constantValue := 0 }]
  methods := #[k17m0]
  instanceTypes := #[]
  staticTypes := #[.int, .int, (.array (.object "java/lang/Integer")), (.array (.object "java/lang/Integer")), .boolean]
  resolved := Array.replicate 100 none
  statics := some 1 }

def pool18 : Array CpInfo := pool [(1, .class_ 2), (0, u "java/lang/Math"), (1, .class_ 6), (1, u "java/lang/Object"), (0, u "<init>"), (0, u "()V"), (89, .class_ 100), (1, u "java/lang/Math$RandomNumberGeneratorHolder"), (71, u "negativeZeroFloatBits"), (0, u "J"), (2, u "negativeZeroDoubleBits"), (21, u "max"), (46, u "$assertionsDisabled"), (0, u "Z"), (88, u "(II)I"), (2, u "twoToTheDoubleScaleDown"), (0, u "D"), (4, u "twoToTheDoubleScaleUp"), (9, u "E"), (3, u "PI"), (2, u "TAU"), (2, u "DEGREES_TO_RADIANS"), (0, u "RADIANS_TO_DEGREES")] 94

def k18m0 : Method := { name := "<init>", desc := "()V", sig := { parameters := [], returnType := none }, accessFlags := 2, code := none }
def k18c1 : Code := { maxStack := 2, maxLocals := 2, code := jdk_29_method_65_code, exceptionTable := #[], attributes := #[] }
def k18m1 : Method := { name := "max", desc := "(II)I", sig := { parameters := [.int, .int], returnType := some .int }, accessFlags := 9, code := some k18c1 }
/-- java/lang/Math -/
def k18 : Class := { plain "java/lang/Math" (some 0) with
  accessFlags := 49
  interfaces := #[]
  cf := some (fileOf pool18 1 #[.nestMembers #[98]] #[{ accessFlags := 2, nameIndex := 7, descriptorIndex := 8, attributes := #[] }, { accessFlags := 9, nameIndex := 198, descriptorIndex := 335, attributes := #[] }] 49 4 #[] #[{ accessFlags := 25, nameIndex := 354, descriptorIndex := 339, attributes := #[] }, { accessFlags := 25, nameIndex := 358, descriptorIndex := 339, attributes := #[] }, { accessFlags := 25, nameIndex := 361, descriptorIndex := 339, attributes := #[] }, { accessFlags := 26, nameIndex := 364, descriptorIndex := 339, attributes := #[] }, { accessFlags := 26, nameIndex := 365, descriptorIndex := 339, attributes := #[] }, { accessFlags := 26, nameIndex := 172, descriptorIndex := 173, attributes := #[] }, { accessFlags := 26, nameIndex := 176, descriptorIndex := 173, attributes := #[] }, { accessFlags := 8, nameIndex := 344, descriptorIndex := 339, attributes := #[] }, { accessFlags := 8, nameIndex := 338, descriptorIndex := 339, attributes := #[] }, { accessFlags := 4120, nameIndex := 245, descriptorIndex := 246, attributes := #[] }])
  fields := #[{ name := "E", type := .double, accessFlags := 25, slot := 0, constantValue := 0 }, { name := "PI", type := .double, accessFlags := 25, slot := 1, constantValue := 0 }, { name := "TAU", type := .double, accessFlags := 25, slot := 2, constantValue := 0 }, { name := "DEGREES_TO_RADIANS", type := .double, accessFlags := 26, slot := 3, constantValue := 0 }, { name := "RADIANS_TO_DEGREES", type := .double, accessFlags := 26, slot := 4, constantValue := 0 }, { name := "negativeZeroFloatBits", type := .long, accessFlags := 26, slot := 5, constantValue := 0 }, { name := "negativeZeroDoubleBits", type := .long, accessFlags := 26, slot := 6, constantValue := 0 }, { name := "twoToTheDoubleScaleUp", type := .double, accessFlags := 8, slot := 7, constantValue := 0 }, { name := "twoToTheDoubleScaleDown", type := .double, accessFlags := 8, slot := 8, constantValue := 0 }, { name := "$assertionsDisabled", type := .boolean, accessFlags := 4120, slot := 9, constantValue := 0 }]
  methods := #[k18m0, k18m1]
  instanceTypes := #[]
  staticTypes := #[.double, .double, .double, .double, .double, .long, .long, .double, .double, .boolean]
  resolved := Array.replicate 460 none
  statics := none }

def pool19 : Array CpInfo := pool [(2, .class_ 4), (1, u "java/lang/Enum"), (0, u "name"), (0, u "Ljava/lang/String;"), (2, u "ordinal"), (0, u "I"), (1, .class_ 14), (1, u "java/lang/Object"), (4, u "hash"), (86, .class_ 108), (1, u "java/lang/Enum$EnumDesc"), (2, .class_ 112), (0, u "java/lang/constant/Constable"), (0, .class_ 114), (0, u "java/lang/Comparable"), (0, .class_ 116), (0, u "java/io/Serializable")] 87

/-- java/lang/Enum -/
def k19 : Class := { plain "java/lang/Enum" (some 0) with
  accessFlags := 1057
  interfaces := #[14, 13, 10]
  cf := some (fileOf pool19 2 #[.nestMembers #[106]] #[] 1057 12 #[111, 113, 115] #[{ accessFlags := 18, nameIndex := 5, descriptorIndex := 6, attributes := #[] }, { accessFlags := 18, nameIndex := 9, descriptorIndex := 10, attributes := #[] }, { accessFlags := 2, nameIndex := 19, descriptorIndex := 10, attributes := #[] }])
  fields := #[{ name := "name", type := (.object "java/lang/String"), accessFlags := 18, slot := 0, constantValue := 0 }, { name := "ordinal", type := .int, accessFlags := 18, slot := 1, constantValue := 0 }, { name := "hash", type := .int, accessFlags := 2, slot := 2, constantValue := 0 }]
  methods := #[]
  instanceTypes := #[(.object "java/lang/String"), .int, .int]
  staticTypes := #[]
  resolved := Array.replicate 204 none
  statics := none }

def pool20 : Array CpInfo := pool [(1, .class_ 2), (0, u "com/example/witnesseth/witnesseth/Heading$Kind"), (2, u "ARTICLE"), (0, u "Lcom/example/witnesseth/witnesseth/Heading$Kind;"), (2, u "SECTION"), (2, u "$VALUES"), (0, u "[Lcom/example/witnesseth/witnesseth/Heading$Kind;"), (6, .class_ 22), (1, u "java/lang/Enum"), (42, .class_ 66), (0, u "com/example/witnesseth/witnesseth/Heading")] 2

/-- com/example/witnesseth/witnesseth/Heading$Kind -/
def k20 : Class := { plain "com/example/witnesseth/witnesseth/Heading$Kind" (some 19) with
  accessFlags := 16433
  interfaces := #[]
  cf := some (fileOf pool20 1 #[.nestHost 65] #[] 16433 20 #[] #[{ accessFlags := 16409, nameIndex := 5, descriptorIndex := 6, attributes := #[] }, { accessFlags := 16409, nameIndex := 9, descriptorIndex := 6, attributes := #[] }, { accessFlags := 4122, nameIndex := 12, descriptorIndex := 13, attributes := #[] }])
  fields := #[{ name := "ARTICLE", type := (.object "com/example/witnesseth/witnesseth/Heading$Kind"), accessFlags := 16409, slot := 0, constantValue := 0 }, { name := "SECTION", type := (.object "com/example/witnesseth/witnesseth/Heading$Kind"), accessFlags := 16409, slot := 1, constantValue := 0 }, { name := "$VALUES", type := (.array (.object "com/example/witnesseth/witnesseth/Heading$Kind")), accessFlags := 4122, slot := 2, constantValue := 0 }]
  methods := #[]
  instanceTypes := #[(.object "java/lang/String"), .int, .int]
  staticTypes := #[(.object "com/example/witnesseth/witnesseth/Heading$Kind"), (.object "com/example/witnesseth/witnesseth/Heading$Kind"), (.array (.object "com/example/witnesseth/witnesseth/Heading$Kind"))]
  resolved := Array.replicate 69 none
  statics := some 2 }

def pool21 : Array CpInfo := pool [(1, .class_ 2), (0, u "com/example/witnesseth/witnesseth/HeadingLine$Form"), (2, u "ARTICLE"), (0, u "Lcom/example/witnesseth/witnesseth/HeadingLine$Form;"), (2, u "SECTION"), (2, u "BARE"), (2, u "NUMBERED"), (2, u "$VALUES"), (0, u "[Lcom/example/witnesseth/witnesseth/HeadingLine$Form;"), (6, .class_ 28), (1, u "java/lang/Enum"), (27, .class_ 57), (0, u "com/example/witnesseth/witnesseth/HeadingLine")] 2

/-- com/example/witnesseth/witnesseth/HeadingLine$Form -/
def k21 : Class := { plain "com/example/witnesseth/witnesseth/HeadingLine$Form" (some 19) with
  accessFlags := 16432
  interfaces := #[]
  cf := some (fileOf pool21 1 #[.nestHost 56] #[] 16432 26 #[] #[{ accessFlags := 16409, nameIndex := 5, descriptorIndex := 6, attributes := #[] }, { accessFlags := 16409, nameIndex := 9, descriptorIndex := 6, attributes := #[] }, { accessFlags := 16409, nameIndex := 12, descriptorIndex := 6, attributes := #[] }, { accessFlags := 16409, nameIndex := 15, descriptorIndex := 6, attributes := #[] }, { accessFlags := 4122, nameIndex := 18, descriptorIndex := 19, attributes := #[] }])
  fields := #[{ name := "ARTICLE", type := (.object "com/example/witnesseth/witnesseth/HeadingLine$Form"), accessFlags := 16409, slot := 0, constantValue := 0 }, { name := "SECTION", type := (.object "com/example/witnesseth/witnesseth/HeadingLine$Form"), accessFlags := 16409, slot := 1, constantValue := 0 }, { name := "BARE", type := (.object "com/example/witnesseth/witnesseth/HeadingLine$Form"), accessFlags := 16409, slot := 2, constantValue := 0 }, { name := "NUMBERED", type := (.object "com/example/witnesseth/witnesseth/HeadingLine$Form"), accessFlags := 16409, slot := 3, constantValue := 0 }, { name := "$VALUES", type := (.array (.object "com/example/witnesseth/witnesseth/HeadingLine$Form")), accessFlags := 4122, slot := 4, constantValue := 0 }]
  methods := #[]
  instanceTypes := #[(.object "java/lang/String"), .int, .int]
  staticTypes := #[(.object "com/example/witnesseth/witnesseth/HeadingLine$Form"), (.object "com/example/witnesseth/witnesseth/HeadingLine$Form"), (.object "com/example/witnesseth/witnesseth/HeadingLine$Form"), (.object "com/example/witnesseth/witnesseth/HeadingLine$Form"), (.array (.object "com/example/witnesseth/witnesseth/HeadingLine$Form"))]
  resolved := Array.replicate 60 none
  statics := some 3 }

def pool22 : Array CpInfo := pool [(1, .methodref 2 3), (0, .class_ 4), (0, .nameAndType 5 6), (0, u "java/lang/Object"), (0, u "<init>"), (0, u "()V"), (0, .class_ 8), (0, u "java/lang/Record")] 13

def k22c0 : Code := { maxStack := 1, maxLocals := 1, code := jdk_30_method_1_code, exceptionTable := #[], attributes := #[] }
def k22m0 : Method := { name := "<init>", desc := "()V", sig := { parameters := [], returnType := none }, accessFlags := 4, code := some k22c0 }
/-- java/lang/Record -/
def k22 : Class := { plain "java/lang/Record" (some 0) with
  accessFlags := 1057
  interfaces := #[]
  cf := some (fileOf pool22 7 #[] #[{ accessFlags := 4, nameIndex := 5, descriptorIndex := 6, attributes := #[] }] 1057 2 #[] #[])
  fields := #[]
  methods := #[k22m0]
  instanceTypes := #[]
  staticTypes := #[]
  resolved := Array.replicate 22 none
  statics := none }

def pool23 : Array CpInfo := pool [(1, .methodref 2 3), (0, .class_ 4), (0, .nameAndType 5 6), (0, u "java/lang/Record"), (0, u "<init>"), (0, u "()V"), (0, .fieldref 8 9), (0, .class_ 10), (0, .nameAndType 11 12), (0, u "com/example/witnesseth/witnesseth/HeadingLine"), (0, u "line"), (0, u "I"), (0, .fieldref 8 14), (0, .nameAndType 15 16), (0, u "kind"), (0, u "Lcom/example/witnesseth/witnesseth/Heading$Kind;"), (0, .fieldref 8 18), (0, .nameAndType 19 20), (0, u "number"), (0, u "Ljava/lang/String;"), (0, .fieldref 8 22), (0, .nameAndType 23 24), (0, u "value"), (0, u "Ljava/util/List;"), (0, .fieldref 8 26), (0, .nameAndType 27 20), (0, u "rest"), (0, .fieldref 8 29), (0, .nameAndType 30 31), (0, u "carriesOn"), (0, u "Z"), (0, .fieldref 8 33), (0, .nameAndType 34 35), (0, u "form"), (0, u "Lcom/example/witnesseth/witnesseth/HeadingLine$Form;"), (38, u "get"), (19, u "()I"), (16, u "ARTICLE"), (0, u "Ljava/util/regex/Pattern;"), (14, u "SECTION"), (2, u "SECTION_ARTICLE"), (2, u "BARE_SECTION"), (2, u "CAPTIONED_SECTION"), (2, u "NUMBERED"), (17, .class_ 159), (1, u "com/example/witnesseth/witnesseth/HeadingLine$Form"), (2, u "article"), (31, .fieldref 195 196), (0, .class_ 197), (0, .nameAndType 111 16), (0, u "com/example/witnesseth/witnesseth/Heading$Kind"), (5, .class_ 205), (1, u "java/lang/Integer"), (3, .class_ 211), (1, u "java/util/List"), (4, u "(ILcom/example/witnesseth/witnesseth/Heading$Kind;Ljava/lang/String;Ljava/util/List;Ljava/lang/String;ZLcom/example/witnesseth/witnesseth/HeadingLine$Form;)V"), (16, .fieldref 195 234), (0, .nameAndType 127 16), (10, u "AMOUNT"), (8, .interfaceMethodref 209 255), (0, .nameAndType 74 256), (0, u "(I)Ljava/lang/Object;"), (0, .methodref 203 258), (0, .nameAndType 259 94), (0, u "intValue"), (0, .methodref 8 261), (0, .nameAndType 162 94), (34, u "ARTICLE_NUMBER_ALONE"), (61, u "ARTICLE_NUMBER"), (1, u "GLUED_PAGE"), (2, u "SECTION_NUMBER"), (2, u "LEADER_DOTS"), (1, u "OPENINGS"), (11, u "holds"), (0, u "(Lcom/example/witnesseth/witnesseth/HeadingLine;)Z")] 71

def k23c0 : Code := { maxStack := 2, maxLocals := 8, code := prog_64_method_1_code, exceptionTable := #[], attributes := #[] }
def k23m0 : Method := { name := "<init>", desc := "(ILcom/example/witnesseth/witnesseth/Heading$Kind;Ljava/lang/String;Ljava/util/List;Ljava/lang/String;ZLcom/example/witnesseth/witnesseth/HeadingLine$Form;)V", sig := { parameters := [.int, (.object "com/example/witnesseth/witnesseth/Heading$Kind"), (.object "java/lang/String"), (.object "java/util/List"), (.object "java/lang/String"), .boolean, (.object "com/example/witnesseth/witnesseth/HeadingLine$Form")], returnType := none }, accessFlags := 0, code := some k23c0 }
def k23c1 : Code := { maxStack := 2, maxLocals := 1, code := prog_64_method_12_code, exceptionTable := #[], attributes := #[] }
def k23m1 : Method := { name := "article", desc := "()I", sig := { parameters := [], returnType := some .int }, accessFlags := 0, code := some k23c1 }
def k23c2 : Code := { maxStack := 2, maxLocals := 2, code := prog_64_method_13_code, exceptionTable := #[], attributes := #[] }
def k23m2 : Method := { name := "holds", desc := "(Lcom/example/witnesseth/witnesseth/HeadingLine;)Z", sig := { parameters := [(.object "com/example/witnesseth/witnesseth/HeadingLine")], returnType := some .boolean }, accessFlags := 0, code := some k23c2 }
/-- com/example/witnesseth/witnesseth/HeadingLine -/
def k23 : Class := { plain "com/example/witnesseth/witnesseth/HeadingLine" (some 22) with
  accessFlags := 48
  interfaces := #[]
  cf := some (fileOf pool23 8 #[.nestMembers #[157]] #[{ accessFlags := 0, nameIndex := 5, descriptorIndex := 216, attributes := #[] }, { accessFlags := 0, nameIndex := 162, descriptorIndex := 94, attributes := #[] }, { accessFlags := 0, nameIndex := 380, descriptorIndex := 381, attributes := #[] }] 48 2 #[] #[{ accessFlags := 18, nameIndex := 11, descriptorIndex := 12, attributes := #[] }, { accessFlags := 18, nameIndex := 15, descriptorIndex := 16, attributes := #[] }, { accessFlags := 18, nameIndex := 19, descriptorIndex := 20, attributes := #[] }, { accessFlags := 18, nameIndex := 23, descriptorIndex := 24, attributes := #[] }, { accessFlags := 18, nameIndex := 27, descriptorIndex := 20, attributes := #[] }, { accessFlags := 18, nameIndex := 30, descriptorIndex := 31, attributes := #[] }, { accessFlags := 18, nameIndex := 34, descriptorIndex := 35, attributes := #[] }, { accessFlags := 24, nameIndex := 358, descriptorIndex := 20, attributes := #[] }, { accessFlags := 26, nameIndex := 360, descriptorIndex := 20, attributes := #[] }, { accessFlags := 26, nameIndex := 111, descriptorIndex := 112, attributes := #[] }, { accessFlags := 26, nameIndex := 296, descriptorIndex := 112, attributes := #[] }, { accessFlags := 26, nameIndex := 363, descriptorIndex := 20, attributes := #[] }, { accessFlags := 26, nameIndex := 127, descriptorIndex := 112, attributes := #[] }, { accessFlags := 26, nameIndex := 130, descriptorIndex := 112, attributes := #[] }, { accessFlags := 26, nameIndex := 133, descriptorIndex := 112, attributes := #[] }, { accessFlags := 26, nameIndex := 136, descriptorIndex := 112, attributes := #[] }, { accessFlags := 26, nameIndex := 366, descriptorIndex := 12, attributes := #[] }, { accessFlags := 26, nameIndex := 245, descriptorIndex := 112, attributes := #[] }, { accessFlags := 26, nameIndex := 139, descriptorIndex := 112, attributes := #[] }, { accessFlags := 26, nameIndex := 368, descriptorIndex := 20, attributes := #[] }])
  fields := #[{ name := "line", type := .int, accessFlags := 18, slot := 0, constantValue := 0 }, { name := "kind", type := (.object "com/example/witnesseth/witnesseth/Heading$Kind"), accessFlags := 18, slot := 1, constantValue := 0 }, { name := "number", type := (.object "java/lang/String"), accessFlags := 18, slot := 2, constantValue := 0 }, { name := "value", type := (.object "java/util/List"), accessFlags := 18, slot := 3, constantValue := 0 }, { name := "rest", type := (.object "java/lang/String"), accessFlags := 18, slot := 4, constantValue := 0 }, { name := "carriesOn", type := .boolean, accessFlags := 18, slot := 5, constantValue := 0 }, { name := "form", type := (.object "com/example/witnesseth/witnesseth/HeadingLine$Form"), accessFlags := 18, slot := 6, constantValue := 0 }, { name := "ARTICLE_NUMBER", type := (.object "java/lang/String"), accessFlags := 24, slot := 0, constantValue := 0 }, { name := "GLUED_PAGE", type := (.object "java/lang/String"), accessFlags := 26, slot := 1, constantValue := 0 }, { name := "ARTICLE", type := (.object "java/util/regex/Pattern"), accessFlags := 26, slot := 2, constantValue := 0 }, { name := "ARTICLE_NUMBER_ALONE", type := (.object "java/util/regex/Pattern"), accessFlags := 26, slot := 3, constantValue := 0 }, { name := "SECTION_NUMBER", type := (.object "java/lang/String"), accessFlags := 26, slot := 4, constantValue := 0 }, { name := "SECTION", type := (.object "java/util/regex/Pattern"), accessFlags := 26, slot := 5, constantValue := 0 }, { name := "SECTION_ARTICLE", type := (.object "java/util/regex/Pattern"), accessFlags := 26, slot := 6, constantValue := 0 }, { name := "BARE_SECTION", type := (.object "java/util/regex/Pattern"), accessFlags := 26, slot := 7, constantValue := 0 }, { name := "CAPTIONED_SECTION", type := (.object "java/util/regex/Pattern"), accessFlags := 26, slot := 8, constantValue := 0 }, { name := "LEADER_DOTS", type := .int, accessFlags := 26, slot := 9, constantValue := 0 }, { name := "AMOUNT", type := (.object "java/util/regex/Pattern"), accessFlags := 26, slot := 10, constantValue := 0 }, { name := "NUMBERED", type := (.object "java/util/regex/Pattern"), accessFlags := 26, slot := 11, constantValue := 0 }, { name := "OPENINGS", type := (.object "java/lang/String"), accessFlags := 26, slot := 12, constantValue := 0 }]
  methods := #[k23m0, k23m1, k23m2]
  instanceTypes := #[.int, (.object "com/example/witnesseth/witnesseth/Heading$Kind"), (.object "java/lang/String"), (.object "java/util/List"), (.object "java/lang/String"), .boolean, (.object "com/example/witnesseth/witnesseth/HeadingLine$Form")]
  staticTypes := #[(.object "java/lang/String"), (.object "java/lang/String"), (.object "java/util/regex/Pattern"), (.object "java/util/regex/Pattern"), (.object "java/lang/String"), (.object "java/util/regex/Pattern"), (.object "java/util/regex/Pattern"), (.object "java/util/regex/Pattern"), (.object "java/util/regex/Pattern"), .int, (.object "java/util/regex/Pattern"), (.object "java/util/regex/Pattern"), (.object "java/lang/String")]
  resolved := Array.replicate 453 none
  statics := none }

def pool24 : Array CpInfo := pool [(2, .class_ 4), (1, u "java/lang/CharSequence"), (42, .class_ 48), (0, u "java/lang/CharSequence$1CodePointIterator"), (10, .class_ 60), (0, u "java/lang/CharSequence$1CharIterator"), (5, .class_ 67), (0, u "java/lang/Object")] 63

/-- java/lang/CharSequence -/
def k24 : Class := { plain "java/lang/CharSequence" (some 0) with
  accessFlags := 1537
  interfaces := #[]
  cf := some (fileOf pool24 2 #[.nestMembers #[47, 59]] #[] 1537 66 #[] #[])
  fields := #[]
  methods := #[]
  instanceTypes := #[]
  staticTypes := #[]
  resolved := Array.replicate 131 none
  statics := none }

def pool25 : Array CpInfo := pool [(2, .class_ 4), (1, u "java/lang/Object"), (0, u "<init>"), (0, u "()V"), (3, .class_ 12), (1, u "java/lang/String"), (0, u "value"), (0, u "[B"), (2, u "coder"), (0, u "B"), (2, u "hash"), (0, u "I"), (2, u "hashIsZero"), (0, u "Z"), (13, u "COMPACT_STRINGS"), (534, .class_ 576), (0, u "java/lang/CharSequence"), (22, u "CASE_INSENSITIVE_ORDER"), (0, u "Ljava/util/Comparator;"), (500, u "serialPersistentFields"), (0, u "[Ljava/io/ObjectStreamField;"), (0, .class_ 1104), (0, u "java/lang/String$CaseInsensitiveComparator"), (1, .class_ 1107), (0, u "java/io/Serializable"), (0, .class_ 1109), (0, u "java/lang/Comparable"), (0, .class_ 1111), (0, u "java/lang/constant/Constable"), (0, .class_ 1113), (0, u "java/lang/constant/ConstantDesc"), (2, u "serialVersionUID"), (0, u "J"), (3, u "REPL"), (0, u "C"), (2, u "LATIN1"), (1, u "UTF16")] 323

def k25m0 : Method := { name := "<init>", desc := "()V", sig := { parameters := [], returnType := none }, accessFlags := 1, code := none }
/-- java/lang/String -/
def k25 : Class := { plain "java/lang/String" (some 0) with
  accessFlags := 49
  interfaces := #[10, 13, 24, 14, 15]
  cf := some (fileOf pool25 10 #[.nestMembers #[1103]] #[{ accessFlags := 1, nameIndex := 5, descriptorIndex := 6, attributes := #[] }] 49 2 #[1106, 1108, 575, 1110, 1112] #[{ accessFlags := 18, nameIndex := 13, descriptorIndex := 14, attributes := #[] }, { accessFlags := 18, nameIndex := 17, descriptorIndex := 18, attributes := #[] }, { accessFlags := 2, nameIndex := 21, descriptorIndex := 22, attributes := #[] }, { accessFlags := 2, nameIndex := 25, descriptorIndex := 26, attributes := #[] }, { accessFlags := 26, nameIndex := 1116, descriptorIndex := 1117, attributes := #[] }, { accessFlags := 24, nameIndex := 40, descriptorIndex := 26, attributes := #[] }, { accessFlags := 26, nameIndex := 1101, descriptorIndex := 1102, attributes := #[] }, { accessFlags := 26, nameIndex := 1121, descriptorIndex := 1122, attributes := #[] }, { accessFlags := 25, nameIndex := 599, descriptorIndex := 600, attributes := #[] }, { accessFlags := 24, nameIndex := 1125, descriptorIndex := 18, attributes := #[] }, { accessFlags := 24, nameIndex := 1127, descriptorIndex := 18, attributes := #[] }])
  fields := #[{ name := "value", type := (.array .byte), accessFlags := 18, slot := 0, constantValue := 0 }, { name := "coder", type := .byte, accessFlags := 18, slot := 1, constantValue := 0 }, { name := "hash", type := .int, accessFlags := 2, slot := 2, constantValue := 0 }, { name := "hashIsZero", type := .boolean, accessFlags := 2, slot := 3, constantValue := 0 }, { name := "serialVersionUID", type := .long, accessFlags := 26, slot := 0, constantValue := 0 }, { name := "COMPACT_STRINGS", type := .boolean, accessFlags := 24, slot := 1, constantValue := 0 }, { name := "serialPersistentFields", type := (.array (.object "java/io/ObjectStreamField")), accessFlags := 26, slot := 2, constantValue := 0 }, { name := "REPL", type := .char, accessFlags := 26, slot := 3, constantValue := 0 }, { name := "CASE_INSENSITIVE_ORDER", type := (.object "java/util/Comparator"), accessFlags := 25, slot := 4, constantValue := 0 }, { name := "LATIN1", type := .byte, accessFlags := 24, slot := 5, constantValue := 0 }, { name := "UTF16", type := .byte, accessFlags := 24, slot := 6, constantValue := 0 }]
  methods := #[k25m0]
  instanceTypes := #[(.array .byte), .byte, .int, .boolean]
  staticTypes := #[.long, .boolean, (.array (.object "java/io/ObjectStreamField")), .char, (.object "java/util/Comparator"), .byte, .byte]
  resolved := Array.replicate 1451 none
  statics := none }

def pool26 : Array CpInfo := pool [(2, .class_ 4), (1, u "java/lang/Object"), (0, u "<init>"), (0, u "()V"), (35, .class_ 44), (1, u "java/util/Objects"), (60, .methodref 106 107), (0, .class_ 108), (0, .nameAndType 109 110), (0, u "jdk/internal/util/Preconditions"), (0, u "checkIndex"), (0, u "(IILjava/util/function/BiFunction;)I"), (60, u "(II)I")] 12

def k26m0 : Method := { name := "<init>", desc := "()V", sig := { parameters := [], returnType := none }, accessFlags := 2, code := none }
def k26c1 : Code := { maxStack := 3, maxLocals := 2, code := jdk_31_method_17_code, exceptionTable := #[], attributes := #[] }
def k26m1 : Method := { name := "checkIndex", desc := "(II)I", sig := { parameters := [.int, .int], returnType := some .int }, accessFlags := 9, code := some k26c1 }
/-- java/util/Objects -/
def k26 : Class := { plain "java/util/Objects" (some 0) with
  accessFlags := 49
  interfaces := #[]
  cf := some (fileOf pool26 42 #[] #[{ accessFlags := 2, nameIndex := 5, descriptorIndex := 6, attributes := #[] }, { accessFlags := 9, nameIndex := 109, descriptorIndex := 171, attributes := #[] }] 49 2 #[] #[])
  fields := #[]
  methods := #[k26m0, k26m1]
  instanceTypes := #[]
  staticTypes := #[]
  resolved := Array.replicate 184 none
  statics := none }

def pool27 : Array CpInfo := pool [(2, .class_ 4), (1, u "java/lang/Object"), (0, u "<init>"), (0, u "()V"), (17, .class_ 26), (1, u "jdk/internal/util/Preconditions"), (6, u "checkIndex"), (21, .class_ 56), (0, u "jdk/internal/util/Preconditions$4"), (57, .class_ 115), (0, u "jdk/internal/util/Preconditions$1"), (7, u "SIOOBE_FORMATTER"), (0, u "Ljava/util/function/BiFunction;"), (0, .class_ 126), (0, u "jdk/internal/util/Preconditions$2"), (3, u "AIOOBE_FORMATTER"), (0, .class_ 132), (0, u "jdk/internal/util/Preconditions$3"), (3, u "IOOBE_FORMATTER"), (41, u "(IILjava/util/function/BiFunction;)I")] 15

def k27m0 : Method := { name := "<init>", desc := "()V", sig := { parameters := [], returnType := none }, accessFlags := 1, code := none }
def k27c1 : Code := { maxStack := 3, maxLocals := 3, code := jdk_41_method_11_code, exceptionTable := #[], attributes := #[] }
def k27m1 : Method := { name := "checkIndex", desc := "(IILjava/util/function/BiFunction;)I", sig := { parameters := [.int, .int, (.object "java/util/function/BiFunction")], returnType := some .int }, accessFlags := 9, code := some k27c1 }
/-- jdk/internal/util/Preconditions -/
def k27 : Class := { plain "jdk/internal/util/Preconditions" (some 0) with
  accessFlags := 33
  interfaces := #[]
  cf := some (fileOf pool27 24 #[.nestMembers #[55, 131, 125, 114]] #[{ accessFlags := 1, nameIndex := 5, descriptorIndex := 6, attributes := #[] }, { accessFlags := 9, nameIndex := 33, descriptorIndex := 178, attributes := #[] }] 33 2 #[] #[{ accessFlags := 25, nameIndex := 123, descriptorIndex := 124, attributes := #[] }, { accessFlags := 25, nameIndex := 130, descriptorIndex := 124, attributes := #[] }, { accessFlags := 25, nameIndex := 136, descriptorIndex := 124, attributes := #[] }])
  fields := #[{ name := "SIOOBE_FORMATTER", type := (.object "java/util/function/BiFunction"), accessFlags := 25, slot := 0, constantValue := 0 }, { name := "AIOOBE_FORMATTER", type := (.object "java/util/function/BiFunction"), accessFlags := 25, slot := 1, constantValue := 0 }, { name := "IOOBE_FORMATTER", type := (.object "java/util/function/BiFunction"), accessFlags := 25, slot := 2, constantValue := 0 }]
  methods := #[k27m0, k27m1]
  instanceTypes := #[]
  staticTypes := #[(.object "java/util/function/BiFunction"), (.object "java/util/function/BiFunction"), (.object "java/util/function/BiFunction")]
  resolved := Array.replicate 194 none
  statics := none }

/-- the primitive byte -/
def k28 : Class := { plain "byte" none with kind := .primitive 'B', accessFlags := 0x411 }
/-- [B -/
def k29 : Class := { plain "[B" (some 0) with kind := .array 28 .byte, interfaces := #[9, 10], accessFlags := 1041 }

/-- the primitive int -/
def k30 : Class := { plain "int" none with kind := .primitive 'I', accessFlags := 0x411 }
/-- [I -/
def k31 : Class := { plain "[I" (some 0) with kind := .array 30 .int, interfaces := #[9, 10], accessFlags := 1041 }

/-- [Ljava/lang/Integer; -/
def k32 : Class := { plain "[Ljava/lang/Integer;" (some 0) with kind := .array 16 (.object "java/lang/Integer"), interfaces := #[9, 10], accessFlags := 1041 }

/-- [Ljava/lang/Object; -/
def k33 : Class := { plain "[Ljava/lang/Object;" (some 0) with kind := .array 0 (.object "java/lang/Object"), interfaces := #[9, 10], accessFlags := 1041 }

def heap : Heap := #[{ cls := 11, slots := #[.long 0, .int 0, .ref 267, .ref 268], vm := .statics 11 },
  { cls := 17, slots := #[.int 0, .int 127, .ref 4, .null, .int 0], vm := .statics 17 },
  { cls := 20, slots := #[.ref 5, .ref 7, .null], vm := .statics 20 },
  { cls := 21, slots := #[.ref 6, .ref 8, .ref 9, .ref 10, .null], vm := .statics 21 },
  { cls := 32, slots := #[.ref 11, .ref 12, .ref 13, .ref 14, .ref 15, .ref 16, .ref 17, .ref 18, .ref 19, .ref 20, .ref 21, .ref 22, .ref 23, .ref 24, .ref 25, .ref 26, .ref 27, .ref 28, .ref 29, .ref 30, .ref 31, .ref 32, .ref 33, .ref 34, .ref 35, .ref 36, .ref 37, .ref 38, .ref 39, .ref 40, .ref 41, .ref 42, .ref 43, .ref 44, .ref 45, .ref 46, .ref 47, .ref 48, .ref 49, .ref 50, .ref 51, .ref 52, .ref 53, .ref 54, .ref 55, .ref 56, .ref 57, .ref 58, .ref 59, .ref 60, .ref 61, .ref 62, .ref 63, .ref 64, .ref 65, .ref 66, .ref 67, .ref 68, .ref 69, .ref 70, .ref 71, .ref 72, .ref 73, .ref 74, .ref 75, .ref 76, .ref 77, .ref 78, .ref 79, .ref 80, .ref 81, .ref 82, .ref 83, .ref 84, .ref 85, .ref 86, .ref 87, .ref 88, .ref 89, .ref 90, .ref 91, .ref 92, .ref 93, .ref 94, .ref 95, .ref 96, .ref 97, .ref 98, .ref 99, .ref 100, .ref 101, .ref 102, .ref 103, .ref 104, .ref 105, .ref 106, .ref 107, .ref 108, .ref 109, .ref 110, .ref 111, .ref 112, .ref 113, .ref 114, .ref 115, .ref 116, .ref 117, .ref 118, .ref 119, .ref 120, .ref 121, .ref 122, .ref 123, .ref 124, .ref 125, .ref 126, .ref 127, .ref 128, .ref 129, .ref 130, .ref 131, .ref 132, .ref 133, .ref 134, .ref 135, .ref 136, .ref 137, .ref 138, .ref 139, .ref 140, .ref 141, .ref 142, .ref 143, .ref 144, .ref 145, .ref 146, .ref 147, .ref 148, .ref 149, .ref 150, .ref 151, .ref 152, .ref 153, .ref 154, .ref 155, .ref 156, .ref 157, .ref 158, .ref 159, .ref 160, .ref 161, .ref 162, .ref 163, .ref 164, .ref 165, .ref 166, .ref 167, .ref 168, .ref 169, .ref 170, .ref 171, .ref 172, .ref 173, .ref 174, .ref 175, .ref 176, .ref 177, .ref 178, .ref 179, .ref 180, .ref 181, .ref 182, .ref 183, .ref 184, .ref 185, .ref 186, .ref 187, .ref 188, .ref 189, .ref 190, .ref 191, .ref 192, .ref 193, .ref 194, .ref 195, .ref 196, .ref 197, .ref 198, .ref 199, .ref 200, .ref 201, .ref 202, .ref 203, .ref 204, .ref 205, .ref 206, .ref 207, .ref 208, .ref 209, .ref 210, .ref 211, .ref 212, .ref 213, .ref 214, .ref 215, .ref 216, .ref 217, .ref 218, .ref 219, .ref 220, .ref 221, .ref 222, .ref 223, .ref 224, .ref 225, .ref 226, .ref 227, .ref 228, .ref 229, .ref 230, .ref 231, .ref 232, .ref 233, .ref 234, .ref 235, .ref 236, .ref 237, .ref 238, .ref 239, .ref 240, .ref 241, .ref 242, .ref 243, .ref 244, .ref 245, .ref 246, .ref 247, .ref 248, .ref 249, .ref 250, .ref 251, .ref 252, .ref 253, .ref 254, .ref 255, .ref 256, .ref 257, .ref 258, .ref 259, .ref 260, .ref 261, .ref 262, .ref 263, .ref 264, .ref 265, .ref 266], vm := .none },
  { cls := 20, slots := #[.null, .int 0, .int 0], vm := .none },
  { cls := 21, slots := #[.null, .int 0, .int 0], vm := .none },
  { cls := 20, slots := #[.null, .int 1, .int 0], vm := .none },
  { cls := 21, slots := #[.null, .int 0, .int 0], vm := .none },
  { cls := 21, slots := #[.null, .int 0, .int 0], vm := .none },
  { cls := 21, slots := #[.null, .int 0, .int 0], vm := .none },
  { cls := 16, slots := #[.int (-128)], vm := .none },
  { cls := 16, slots := #[.int (-127)], vm := .none },
  { cls := 16, slots := #[.int (-126)], vm := .none },
  { cls := 16, slots := #[.int (-125)], vm := .none },
  { cls := 16, slots := #[.int (-124)], vm := .none },
  { cls := 16, slots := #[.int (-123)], vm := .none },
  { cls := 16, slots := #[.int (-122)], vm := .none },
  { cls := 16, slots := #[.int (-121)], vm := .none },
  { cls := 16, slots := #[.int (-120)], vm := .none },
  { cls := 16, slots := #[.int (-119)], vm := .none },
  { cls := 16, slots := #[.int (-118)], vm := .none },
  { cls := 16, slots := #[.int (-117)], vm := .none },
  { cls := 16, slots := #[.int (-116)], vm := .none },
  { cls := 16, slots := #[.int (-115)], vm := .none },
  { cls := 16, slots := #[.int (-114)], vm := .none },
  { cls := 16, slots := #[.int (-113)], vm := .none },
  { cls := 16, slots := #[.int (-112)], vm := .none },
  { cls := 16, slots := #[.int (-111)], vm := .none },
  { cls := 16, slots := #[.int (-110)], vm := .none },
  { cls := 16, slots := #[.int (-109)], vm := .none },
  { cls := 16, slots := #[.int (-108)], vm := .none },
  { cls := 16, slots := #[.int (-107)], vm := .none },
  { cls := 16, slots := #[.int (-106)], vm := .none },
  { cls := 16, slots := #[.int (-105)], vm := .none },
  { cls := 16, slots := #[.int (-104)], vm := .none },
  { cls := 16, slots := #[.int (-103)], vm := .none },
  { cls := 16, slots := #[.int (-102)], vm := .none },
  { cls := 16, slots := #[.int (-101)], vm := .none },
  { cls := 16, slots := #[.int (-100)], vm := .none },
  { cls := 16, slots := #[.int (-99)], vm := .none },
  { cls := 16, slots := #[.int (-98)], vm := .none },
  { cls := 16, slots := #[.int (-97)], vm := .none },
  { cls := 16, slots := #[.int (-96)], vm := .none },
  { cls := 16, slots := #[.int (-95)], vm := .none },
  { cls := 16, slots := #[.int (-94)], vm := .none },
  { cls := 16, slots := #[.int (-93)], vm := .none },
  { cls := 16, slots := #[.int (-92)], vm := .none },
  { cls := 16, slots := #[.int (-91)], vm := .none },
  { cls := 16, slots := #[.int (-90)], vm := .none },
  { cls := 16, slots := #[.int (-89)], vm := .none },
  { cls := 16, slots := #[.int (-88)], vm := .none },
  { cls := 16, slots := #[.int (-87)], vm := .none },
  { cls := 16, slots := #[.int (-86)], vm := .none },
  { cls := 16, slots := #[.int (-85)], vm := .none },
  { cls := 16, slots := #[.int (-84)], vm := .none },
  { cls := 16, slots := #[.int (-83)], vm := .none },
  { cls := 16, slots := #[.int (-82)], vm := .none },
  { cls := 16, slots := #[.int (-81)], vm := .none },
  { cls := 16, slots := #[.int (-80)], vm := .none },
  { cls := 16, slots := #[.int (-79)], vm := .none },
  { cls := 16, slots := #[.int (-78)], vm := .none },
  { cls := 16, slots := #[.int (-77)], vm := .none },
  { cls := 16, slots := #[.int (-76)], vm := .none },
  { cls := 16, slots := #[.int (-75)], vm := .none },
  { cls := 16, slots := #[.int (-74)], vm := .none },
  { cls := 16, slots := #[.int (-73)], vm := .none },
  { cls := 16, slots := #[.int (-72)], vm := .none },
  { cls := 16, slots := #[.int (-71)], vm := .none },
  { cls := 16, slots := #[.int (-70)], vm := .none },
  { cls := 16, slots := #[.int (-69)], vm := .none },
  { cls := 16, slots := #[.int (-68)], vm := .none },
  { cls := 16, slots := #[.int (-67)], vm := .none },
  { cls := 16, slots := #[.int (-66)], vm := .none },
  { cls := 16, slots := #[.int (-65)], vm := .none },
  { cls := 16, slots := #[.int (-64)], vm := .none },
  { cls := 16, slots := #[.int (-63)], vm := .none },
  { cls := 16, slots := #[.int (-62)], vm := .none },
  { cls := 16, slots := #[.int (-61)], vm := .none },
  { cls := 16, slots := #[.int (-60)], vm := .none },
  { cls := 16, slots := #[.int (-59)], vm := .none },
  { cls := 16, slots := #[.int (-58)], vm := .none },
  { cls := 16, slots := #[.int (-57)], vm := .none },
  { cls := 16, slots := #[.int (-56)], vm := .none },
  { cls := 16, slots := #[.int (-55)], vm := .none },
  { cls := 16, slots := #[.int (-54)], vm := .none },
  { cls := 16, slots := #[.int (-53)], vm := .none },
  { cls := 16, slots := #[.int (-52)], vm := .none },
  { cls := 16, slots := #[.int (-51)], vm := .none },
  { cls := 16, slots := #[.int (-50)], vm := .none },
  { cls := 16, slots := #[.int (-49)], vm := .none },
  { cls := 16, slots := #[.int (-48)], vm := .none },
  { cls := 16, slots := #[.int (-47)], vm := .none },
  { cls := 16, slots := #[.int (-46)], vm := .none },
  { cls := 16, slots := #[.int (-45)], vm := .none },
  { cls := 16, slots := #[.int (-44)], vm := .none },
  { cls := 16, slots := #[.int (-43)], vm := .none },
  { cls := 16, slots := #[.int (-42)], vm := .none },
  { cls := 16, slots := #[.int (-41)], vm := .none },
  { cls := 16, slots := #[.int (-40)], vm := .none },
  { cls := 16, slots := #[.int (-39)], vm := .none },
  { cls := 16, slots := #[.int (-38)], vm := .none },
  { cls := 16, slots := #[.int (-37)], vm := .none },
  { cls := 16, slots := #[.int (-36)], vm := .none },
  { cls := 16, slots := #[.int (-35)], vm := .none },
  { cls := 16, slots := #[.int (-34)], vm := .none },
  { cls := 16, slots := #[.int (-33)], vm := .none },
  { cls := 16, slots := #[.int (-32)], vm := .none },
  { cls := 16, slots := #[.int (-31)], vm := .none },
  { cls := 16, slots := #[.int (-30)], vm := .none },
  { cls := 16, slots := #[.int (-29)], vm := .none },
  { cls := 16, slots := #[.int (-28)], vm := .none },
  { cls := 16, slots := #[.int (-27)], vm := .none },
  { cls := 16, slots := #[.int (-26)], vm := .none },
  { cls := 16, slots := #[.int (-25)], vm := .none },
  { cls := 16, slots := #[.int (-24)], vm := .none },
  { cls := 16, slots := #[.int (-23)], vm := .none },
  { cls := 16, slots := #[.int (-22)], vm := .none },
  { cls := 16, slots := #[.int (-21)], vm := .none },
  { cls := 16, slots := #[.int (-20)], vm := .none },
  { cls := 16, slots := #[.int (-19)], vm := .none },
  { cls := 16, slots := #[.int (-18)], vm := .none },
  { cls := 16, slots := #[.int (-17)], vm := .none },
  { cls := 16, slots := #[.int (-16)], vm := .none },
  { cls := 16, slots := #[.int (-15)], vm := .none },
  { cls := 16, slots := #[.int (-14)], vm := .none },
  { cls := 16, slots := #[.int (-13)], vm := .none },
  { cls := 16, slots := #[.int (-12)], vm := .none },
  { cls := 16, slots := #[.int (-11)], vm := .none },
  { cls := 16, slots := #[.int (-10)], vm := .none },
  { cls := 16, slots := #[.int (-9)], vm := .none },
  { cls := 16, slots := #[.int (-8)], vm := .none },
  { cls := 16, slots := #[.int (-7)], vm := .none },
  { cls := 16, slots := #[.int (-6)], vm := .none },
  { cls := 16, slots := #[.int (-5)], vm := .none },
  { cls := 16, slots := #[.int (-4)], vm := .none },
  { cls := 16, slots := #[.int (-3)], vm := .none },
  { cls := 16, slots := #[.int (-2)], vm := .none },
  { cls := 16, slots := #[.int (-1)], vm := .none },
  { cls := 16, slots := #[.int (0)], vm := .none },
  { cls := 16, slots := #[.int (1)], vm := .none },
  { cls := 16, slots := #[.int (2)], vm := .none },
  { cls := 16, slots := #[.int (3)], vm := .none },
  { cls := 16, slots := #[.int (4)], vm := .none },
  { cls := 16, slots := #[.int (5)], vm := .none },
  { cls := 16, slots := #[.int (6)], vm := .none },
  { cls := 16, slots := #[.int (7)], vm := .none },
  { cls := 16, slots := #[.int (8)], vm := .none },
  { cls := 16, slots := #[.int (9)], vm := .none },
  { cls := 16, slots := #[.int (10)], vm := .none },
  { cls := 16, slots := #[.int (11)], vm := .none },
  { cls := 16, slots := #[.int (12)], vm := .none },
  { cls := 16, slots := #[.int (13)], vm := .none },
  { cls := 16, slots := #[.int (14)], vm := .none },
  { cls := 16, slots := #[.int (15)], vm := .none },
  { cls := 16, slots := #[.int (16)], vm := .none },
  { cls := 16, slots := #[.int (17)], vm := .none },
  { cls := 16, slots := #[.int (18)], vm := .none },
  { cls := 16, slots := #[.int (19)], vm := .none },
  { cls := 16, slots := #[.int (20)], vm := .none },
  { cls := 16, slots := #[.int (21)], vm := .none },
  { cls := 16, slots := #[.int (22)], vm := .none },
  { cls := 16, slots := #[.int (23)], vm := .none },
  { cls := 16, slots := #[.int (24)], vm := .none },
  { cls := 16, slots := #[.int (25)], vm := .none },
  { cls := 16, slots := #[.int (26)], vm := .none },
  { cls := 16, slots := #[.int (27)], vm := .none },
  { cls := 16, slots := #[.int (28)], vm := .none },
  { cls := 16, slots := #[.int (29)], vm := .none },
  { cls := 16, slots := #[.int (30)], vm := .none },
  { cls := 16, slots := #[.int (31)], vm := .none },
  { cls := 16, slots := #[.int (32)], vm := .none },
  { cls := 16, slots := #[.int (33)], vm := .none },
  { cls := 16, slots := #[.int (34)], vm := .none },
  { cls := 16, slots := #[.int (35)], vm := .none },
  { cls := 16, slots := #[.int (36)], vm := .none },
  { cls := 16, slots := #[.int (37)], vm := .none },
  { cls := 16, slots := #[.int (38)], vm := .none },
  { cls := 16, slots := #[.int (39)], vm := .none },
  { cls := 16, slots := #[.int (40)], vm := .none },
  { cls := 16, slots := #[.int (41)], vm := .none },
  { cls := 16, slots := #[.int (42)], vm := .none },
  { cls := 16, slots := #[.int (43)], vm := .none },
  { cls := 16, slots := #[.int (44)], vm := .none },
  { cls := 16, slots := #[.int (45)], vm := .none },
  { cls := 16, slots := #[.int (46)], vm := .none },
  { cls := 16, slots := #[.int (47)], vm := .none },
  { cls := 16, slots := #[.int (48)], vm := .none },
  { cls := 16, slots := #[.int (49)], vm := .none },
  { cls := 16, slots := #[.int (50)], vm := .none },
  { cls := 16, slots := #[.int (51)], vm := .none },
  { cls := 16, slots := #[.int (52)], vm := .none },
  { cls := 16, slots := #[.int (53)], vm := .none },
  { cls := 16, slots := #[.int (54)], vm := .none },
  { cls := 16, slots := #[.int (55)], vm := .none },
  { cls := 16, slots := #[.int (56)], vm := .none },
  { cls := 16, slots := #[.int (57)], vm := .none },
  { cls := 16, slots := #[.int (58)], vm := .none },
  { cls := 16, slots := #[.int (59)], vm := .none },
  { cls := 16, slots := #[.int (60)], vm := .none },
  { cls := 16, slots := #[.int (61)], vm := .none },
  { cls := 16, slots := #[.int (62)], vm := .none },
  { cls := 16, slots := #[.int (63)], vm := .none },
  { cls := 16, slots := #[.int (64)], vm := .none },
  { cls := 16, slots := #[.int (65)], vm := .none },
  { cls := 16, slots := #[.int (66)], vm := .none },
  { cls := 16, slots := #[.int (67)], vm := .none },
  { cls := 16, slots := #[.int (68)], vm := .none },
  { cls := 16, slots := #[.int (69)], vm := .none },
  { cls := 16, slots := #[.int (70)], vm := .none },
  { cls := 16, slots := #[.int (71)], vm := .none },
  { cls := 16, slots := #[.int (72)], vm := .none },
  { cls := 16, slots := #[.int (73)], vm := .none },
  { cls := 16, slots := #[.int (74)], vm := .none },
  { cls := 16, slots := #[.int (75)], vm := .none },
  { cls := 16, slots := #[.int (76)], vm := .none },
  { cls := 16, slots := #[.int (77)], vm := .none },
  { cls := 16, slots := #[.int (78)], vm := .none },
  { cls := 16, slots := #[.int (79)], vm := .none },
  { cls := 16, slots := #[.int (80)], vm := .none },
  { cls := 16, slots := #[.int (81)], vm := .none },
  { cls := 16, slots := #[.int (82)], vm := .none },
  { cls := 16, slots := #[.int (83)], vm := .none },
  { cls := 16, slots := #[.int (84)], vm := .none },
  { cls := 16, slots := #[.int (85)], vm := .none },
  { cls := 16, slots := #[.int (86)], vm := .none },
  { cls := 16, slots := #[.int (87)], vm := .none },
  { cls := 16, slots := #[.int (88)], vm := .none },
  { cls := 16, slots := #[.int (89)], vm := .none },
  { cls := 16, slots := #[.int (90)], vm := .none },
  { cls := 16, slots := #[.int (91)], vm := .none },
  { cls := 16, slots := #[.int (92)], vm := .none },
  { cls := 16, slots := #[.int (93)], vm := .none },
  { cls := 16, slots := #[.int (94)], vm := .none },
  { cls := 16, slots := #[.int (95)], vm := .none },
  { cls := 16, slots := #[.int (96)], vm := .none },
  { cls := 16, slots := #[.int (97)], vm := .none },
  { cls := 16, slots := #[.int (98)], vm := .none },
  { cls := 16, slots := #[.int (99)], vm := .none },
  { cls := 16, slots := #[.int (100)], vm := .none },
  { cls := 16, slots := #[.int (101)], vm := .none },
  { cls := 16, slots := #[.int (102)], vm := .none },
  { cls := 16, slots := #[.int (103)], vm := .none },
  { cls := 16, slots := #[.int (104)], vm := .none },
  { cls := 16, slots := #[.int (105)], vm := .none },
  { cls := 16, slots := #[.int (106)], vm := .none },
  { cls := 16, slots := #[.int (107)], vm := .none },
  { cls := 16, slots := #[.int (108)], vm := .none },
  { cls := 16, slots := #[.int (109)], vm := .none },
  { cls := 16, slots := #[.int (110)], vm := .none },
  { cls := 16, slots := #[.int (111)], vm := .none },
  { cls := 16, slots := #[.int (112)], vm := .none },
  { cls := 16, slots := #[.int (113)], vm := .none },
  { cls := 16, slots := #[.int (114)], vm := .none },
  { cls := 16, slots := #[.int (115)], vm := .none },
  { cls := 16, slots := #[.int (116)], vm := .none },
  { cls := 16, slots := #[.int (117)], vm := .none },
  { cls := 16, slots := #[.int (118)], vm := .none },
  { cls := 16, slots := #[.int (119)], vm := .none },
  { cls := 16, slots := #[.int (120)], vm := .none },
  { cls := 16, slots := #[.int (121)], vm := .none },
  { cls := 16, slots := #[.int (122)], vm := .none },
  { cls := 16, slots := #[.int (123)], vm := .none },
  { cls := 16, slots := #[.int (124)], vm := .none },
  { cls := 16, slots := #[.int (125)], vm := .none },
  { cls := 16, slots := #[.int (126)], vm := .none },
  { cls := 16, slots := #[.int (127)], vm := .none },
  { cls := 33, slots := #[], vm := .none },
  { cls := 33, slots := #[], vm := .none }]
def classes : Array Class := #[k0, k1, k2, k3, k4, k5, k6, k7, k8, k9, k10, k11, k12, k13, k14, k15, k16, k17, k18, k19, k20, k21, k22, k23, k24, k25, k26, k27, k28, k29, k30, k31, k32, k33]
def interned : List (Array UInt16 × Addr) := []
def slotsUsed : Nat := 547
def theMethod : MethodId := ⟨1, 1⟩
def args0 : Array Value := #[.int 5, .int 5, .int 5, .int 5]
def aboutOver (below : List Frame) : State where
  vm := { classes := classes, interned := interned.toArray }
  heap := heap
  slotsUsed := slotsUsed
  threads := #[{ frames := .invoking theMethod args0 :: below }]
def below0 : List Frame := [.native { method := ⟨0, 0⟩, args := #[] }]
def about1 : State := aboutOver below0
def p0 : Program := .bare "" "" ""
def e0 : Env := launch0.env 0 0 0
theorem w_frames : about1.frames = Frame.invoking theMethod args0 :: below0 := rfl
set_option maxRecDepth 65536 in
theorem w_args : argsFit about1.vm theMethod args0 = true := by decide +kernel
set_option maxRecDepth 65536 in
theorem w_heap : heapFits about1 = true := by decide +kernel
set_option maxRecDepth 65536 in
theorem w_runnable : about1.curStatus? = some .runnable := by decide +kernel
set_option maxRecDepth 65536 in
theorem w_alone : about1.alone = true := by decide +kernel
set_option maxRecDepth 65536 in
theorem w_named : about1.methodNamed? x = some theMethod := by decide +kernel
set_option maxRecDepth 65536 in
theorem w_hears : about1.hears theMethod below0 = true := by decide +kernel
set_option maxRecDepth 65536 in
theorem w_ripe : about1.ripe theMethod args0 below0 = true := by decide +kernel
theorem w_running : about1.status = .running := rfl
set_option maxRecDepth 65536 in
theorem w_room : about1.hasRoom e0.platform room_1 = true :=
  launch0.hasRoom_least _ room_1 (by decide +kernel) (by decide +kernel) (by decide +kernel) (by decide +kernel) (by decide +kernel) (by decide +kernel)
theorem allAtoms_all (ts : List Jvm.Cond) (a : Array Jvm.Value) (st : Jvm.State) : (allAtoms ts).before a st = ts.all (fun c => c.before a st) := by
  induction ts with
  | nil => rfl
  | cons c t ih =>
    show (Jvm.Cond.and c (allAtoms t)).before a st = _
    rw [Jvm.Cond.before_and, ih, List.all_cons]
def words1 : List Jvm.Cond := Jvm.Cond.code x code maxLocals ret :: tables_1
/-- a 'code' word, met by the world's own term for the bytes: nothing is compared byte by byte -/
theorem code_word {y : MethodName} {bytes : ByteArray} {mx : Nat} {rt : Option FieldType} {a : Array Value} {s : State} {m : MethodId} {meth : Method} {c : Code} (h1 : s.methodNamed? y = some m) (h2 : s.vm.method? m = some meth) (h3 : meth.code = some c) (h4 : c.code = bytes)
    (h5 : (c.maxLocals == mx && c.exceptionTable.isEmpty && decide (c.maxStack ≤ mostOperands) && decide (meth.sig.returnType = rt) && !meth.locks && decide (parseMethodDescriptor y.desc = some meth.sig)) = true) : (Jvm.Cond.code y bytes mx rt).before a s = true := by
  simp only [Bool.and_eq_true, beq_iff_eq, Bool.not_eq_true', decide_eq_true_eq] at h5
  obtain ⟨⟨⟨⟨⟨g1, g2⟩, g3⟩, g4⟩, g5⟩, g6⟩ := h5
  simp [Cond.before, Cond.holds, Cond.value, h1, h2, h3, h4, g1, g2, g3, g4, g5, g6]
def isCode : Jvm.Cond → Bool
  | .code _ _ _ _ => true
  | _ => false
theorem all_split {L : List Jvm.Cond} {P : Jvm.Cond → Bool} (h1 : L.all (fun c => isCode c || P c) = true) (h2 : ∀ c ∈ L.filter isCode, P c = true) : L.all P = true := by
  refine List.all_eq_true.mpr fun c hc => ?_
  have h := List.all_eq_true.mp h1 c hc
  rcases Bool.eq_false_or_eq_true (isCode c) with hi | hi
  · exact h2 c (List.mem_filter.mpr ⟨hc, hi⟩)
  · simpa [hi] using h
set_option maxRecDepth 65536 in
theorem w_c0 : (Jvm.Cond.code x code maxLocals ret).before args0 about1 = true := code_word (m := ⟨1, 1⟩) (meth := k1m1) (c := k1c1) (by decide +kernel) rfl rfl rfl (by decide +kernel)
set_option maxRecDepth 65536 in
theorem w_c1 : (Jvm.Cond.code ({ cls := "java/util/ArrayList", name := "<init>", desc := "()V" } : Jvm.MethodName) jdk_38_method_2_code (1 : Nat) (Option.none : Option Jvm.ClassFile.FieldType)).before args0 about1 = true := code_word (m := ⟨11, 0⟩) (meth := k11m0) (c := k11c0) (by decide +kernel) rfl rfl rfl (by decide +kernel)
set_option maxRecDepth 65536 in
theorem w_c2 : (Jvm.Cond.code ({ cls := "java/util/AbstractList", name := "<init>", desc := "()V" } : Jvm.MethodName) jdk_39_method_1_code (1 : Nat) (Option.none : Option Jvm.ClassFile.FieldType)).before args0 about1 = true := code_word (m := ⟨7, 0⟩) (meth := k7m0) (c := k7c0) (by decide +kernel) rfl rfl rfl (by decide +kernel)
set_option maxRecDepth 65536 in
theorem w_c3 : (Jvm.Cond.code ({ cls := "java/util/AbstractCollection", name := "<init>", desc := "()V" } : Jvm.MethodName) jdk_22_method_1_code (1 : Nat) (Option.none : Option Jvm.ClassFile.FieldType)).before args0 about1 = true := code_word (m := ⟨4, 0⟩) (meth := k4m0) (c := k4c0) (by decide +kernel) rfl rfl rfl (by decide +kernel)
set_option maxRecDepth 65536 in
theorem w_c4 : (Jvm.Cond.code ({ cls := "java/lang/Object", name := "<init>", desc := "()V" } : Jvm.MethodName) object_method_1_code (1 : Nat) (Option.none : Option Jvm.ClassFile.FieldType)).before args0 about1 = true := code_word (m := ⟨0, 0⟩) (meth := k0m0) (c := k0c0) (by decide +kernel) rfl rfl rfl (by decide +kernel)
set_option maxRecDepth 65536 in
theorem w_c5 : (Jvm.Cond.code ({ cls := "java/lang/Integer", name := "valueOf", desc := "(I)Ljava/lang/Integer;" } : Jvm.MethodName) jdk_33_method_22_code (1 : Nat) (Option.some (Jvm.ClassFile.FieldType.object "java/lang/Integer"))).before args0 about1 = true := code_word (m := ⟨16, 0⟩) (meth := k16m0) (c := k16c0) (by decide +kernel) rfl rfl rfl (by decide +kernel)
set_option maxRecDepth 65536 in
theorem w_c6 : (Jvm.Cond.code ({ cls := "java/util/ArrayList", name := "add", desc := "(Ljava/lang/Object;)Z" } : Jvm.MethodName) jdk_38_method_25_code (2 : Nat) (Option.some Jvm.ClassFile.FieldType.boolean)).before args0 about1 = true := code_word (m := ⟨11, 6⟩) (meth := k11m6) (c := k11c6) (by decide +kernel) rfl rfl rfl (by decide +kernel)
set_option maxRecDepth 65536 in
theorem w_c7 : (Jvm.Cond.code ({ cls := "java/util/ArrayList", name := "add", desc := "(Ljava/lang/Object;[Ljava/lang/Object;I)V" } : Jvm.MethodName) jdk_38_method_24_code (4 : Nat) (Option.none : Option Jvm.ClassFile.FieldType)).before args0 about1 = true := code_word (m := ⟨11, 5⟩) (meth := k11m5) (c := k11c5) (by decide +kernel) rfl rfl rfl (by decide +kernel)
set_option maxRecDepth 65536 in
theorem w_c8 : (Jvm.Cond.code ({ cls := "java/util/ArrayList", name := "grow", desc := "()[Ljava/lang/Object;" } : Jvm.MethodName) jdk_38_method_7_code (1 : Nat) (Option.some (Jvm.ClassFile.FieldType.array (Jvm.ClassFile.FieldType.object "java/lang/Object")))).before args0 about1 = true := code_word (m := ⟨11, 2⟩) (meth := k11m2) (c := k11c2) (by decide +kernel) rfl rfl rfl (by decide +kernel)
set_option maxRecDepth 65536 in
theorem w_c9 : (Jvm.Cond.code ({ cls := "java/util/ArrayList", name := "grow", desc := "(I)[Ljava/lang/Object;" } : Jvm.MethodName) jdk_38_method_6_code (4 : Nat) (Option.some (Jvm.ClassFile.FieldType.array (Jvm.ClassFile.FieldType.object "java/lang/Object")))).before args0 about1 = true := code_word (m := ⟨11, 1⟩) (meth := k11m1) (c := k11c1) (by decide +kernel) rfl rfl rfl (by decide +kernel)
set_option maxRecDepth 65536 in
theorem w_c10 : (Jvm.Cond.code ({ cls := "java/lang/Math", name := "max", desc := "(II)I" } : Jvm.MethodName) jdk_29_method_65_code (2 : Nat) (Option.some Jvm.ClassFile.FieldType.int)).before args0 about1 = true := code_word (m := ⟨18, 1⟩) (meth := k18m1) (c := k18c1) (by decide +kernel) rfl rfl rfl (by decide +kernel)
set_option maxRecDepth 65536 in
theorem w_c11 : (Jvm.Cond.code ({ cls := "com/example/witnesseth/witnesseth/HeadingLine", name := "<init>", desc := "(ILcom/example/witnesseth/witnesseth/Heading$Kind;Ljava/lang/String;Ljava/util/List;Ljava/lang/String;ZLcom/example/witnesseth/witnesseth/HeadingLine$Form;)V" } : Jvm.MethodName) prog_64_method_1_code (8 : Nat) (Option.none : Option Jvm.ClassFile.FieldType)).before args0 about1 = true := code_word (m := ⟨23, 0⟩) (meth := k23m0) (c := k23c0) (by decide +kernel) rfl rfl rfl (by decide +kernel)
set_option maxRecDepth 65536 in
theorem w_c12 : (Jvm.Cond.code ({ cls := "java/lang/Record", name := "<init>", desc := "()V" } : Jvm.MethodName) jdk_30_method_1_code (1 : Nat) (Option.none : Option Jvm.ClassFile.FieldType)).before args0 about1 = true := code_word (m := ⟨22, 0⟩) (meth := k22m0) (c := k22c0) (by decide +kernel) rfl rfl rfl (by decide +kernel)
set_option maxRecDepth 65536 in
theorem w_c13 : (Jvm.Cond.code ({ cls := "com/example/witnesseth/witnesseth/HeadingLine", name := "article", desc := "()I" } : Jvm.MethodName) prog_64_method_12_code (1 : Nat) (Option.some Jvm.ClassFile.FieldType.int)).before args0 about1 = true := code_word (m := ⟨23, 1⟩) (meth := k23m1) (c := k23c1) (by decide +kernel) rfl rfl rfl (by decide +kernel)
set_option maxRecDepth 65536 in
theorem w_c14 : (Jvm.Cond.code ({ cls := "java/util/ArrayList", name := "get", desc := "(I)Ljava/lang/Object;" } : Jvm.MethodName) jdk_38_method_20_code (2 : Nat) (Option.some (Jvm.ClassFile.FieldType.object "java/lang/Object"))).before args0 about1 = true := code_word (m := ⟨11, 4⟩) (meth := k11m4) (c := k11c4) (by decide +kernel) rfl rfl rfl (by decide +kernel)
set_option maxRecDepth 65536 in
theorem w_c15 : (Jvm.Cond.code ({ cls := "java/util/Objects", name := "checkIndex", desc := "(II)I" } : Jvm.MethodName) jdk_31_method_17_code (2 : Nat) (Option.some Jvm.ClassFile.FieldType.int)).before args0 about1 = true := code_word (m := ⟨26, 1⟩) (meth := k26m1) (c := k26c1) (by decide +kernel) rfl rfl rfl (by decide +kernel)
set_option maxRecDepth 65536 in
theorem w_c16 : (Jvm.Cond.code ({ cls := "jdk/internal/util/Preconditions", name := "checkIndex", desc := "(IILjava/util/function/BiFunction;)I" } : Jvm.MethodName) jdk_41_method_11_code (3 : Nat) (Option.some Jvm.ClassFile.FieldType.int)).before args0 about1 = true := code_word (m := ⟨27, 1⟩) (meth := k27m1) (c := k27c1) (by decide +kernel) rfl rfl rfl (by decide +kernel)
set_option maxRecDepth 65536 in
theorem w_c17 : (Jvm.Cond.code ({ cls := "java/util/ArrayList", name := "elementData", desc := "(I)Ljava/lang/Object;" } : Jvm.MethodName) jdk_38_method_18_code (2 : Nat) (Option.some (Jvm.ClassFile.FieldType.object "java/lang/Object"))).before args0 about1 = true := code_word (m := ⟨11, 3⟩) (meth := k11m3) (c := k11c3) (by decide +kernel) rfl rfl rfl (by decide +kernel)
set_option maxRecDepth 65536 in
theorem w_c18 : (Jvm.Cond.code ({ cls := "java/lang/Integer", name := "intValue", desc := "()I" } : Jvm.MethodName) jdk_33_method_27_code (1 : Nat) (Option.some Jvm.ClassFile.FieldType.int)).before args0 about1 = true := code_word (m := ⟨16, 2⟩) (meth := k16m2) (c := k16c2) (by decide +kernel) rfl rfl rfl (by decide +kernel)
set_option maxRecDepth 65536 in
theorem w_c19 : (Jvm.Cond.code ({ cls := "com/example/witnesseth/witnesseth/HeadingLine", name := "holds", desc := "(Lcom/example/witnesseth/witnesseth/HeadingLine;)Z" } : Jvm.MethodName) prog_64_method_13_code (2 : Nat) (Option.some Jvm.ClassFile.FieldType.boolean)).before args0 about1 = true := code_word (m := ⟨23, 2⟩) (meth := k23m2) (c := k23c2) (by decide +kernel) rfl rfl rfl (by decide +kernel)
set_option maxRecDepth 65536 in
theorem w_c20 : (Jvm.Cond.code ({ cls := "java/lang/Integer", name := "<init>", desc := "(I)V" } : Jvm.MethodName) jdk_33_method_23_code (2 : Nat) (Option.none : Option Jvm.ClassFile.FieldType)).before args0 about1 = true := code_word (m := ⟨16, 1⟩) (meth := k16m1) (c := k16c1) (by decide +kernel) rfl rfl rfl (by decide +kernel)
set_option maxRecDepth 65536 in
theorem w_c21 : (Jvm.Cond.code ({ cls := "java/lang/Number", name := "<init>", desc := "()V" } : Jvm.MethodName) jdk_18_method_1_code (1 : Nat) (Option.none : Option Jvm.ClassFile.FieldType)).before args0 about1 = true := code_word (m := ⟨12, 0⟩) (meth := k12m0) (c := k12c0) (by decide +kernel) rfl rfl rfl (by decide +kernel)
def codes1 : List Jvm.Cond := [Jvm.Cond.code x code maxLocals ret, Jvm.Cond.code ({ cls := "java/util/ArrayList", name := "<init>", desc := "()V" } : Jvm.MethodName) jdk_38_method_2_code (1 : Nat) (Option.none : Option Jvm.ClassFile.FieldType), Jvm.Cond.code ({ cls := "java/util/AbstractList", name := "<init>", desc := "()V" } : Jvm.MethodName) jdk_39_method_1_code (1 : Nat) (Option.none : Option Jvm.ClassFile.FieldType), Jvm.Cond.code ({ cls := "java/util/AbstractCollection", name := "<init>", desc := "()V" } : Jvm.MethodName) jdk_22_method_1_code (1 : Nat) (Option.none : Option Jvm.ClassFile.FieldType), Jvm.Cond.code ({ cls := "java/lang/Object", name := "<init>", desc := "()V" } : Jvm.MethodName) object_method_1_code (1 : Nat) (Option.none : Option Jvm.ClassFile.FieldType), Jvm.Cond.code ({ cls := "java/lang/Integer", name := "valueOf", desc := "(I)Ljava/lang/Integer;" } : Jvm.MethodName) jdk_33_method_22_code (1 : Nat) (Option.some (Jvm.ClassFile.FieldType.object "java/lang/Integer")), Jvm.Cond.code ({ cls := "java/util/ArrayList", name := "add", desc := "(Ljava/lang/Object;)Z" } : Jvm.MethodName) jdk_38_method_25_code (2 : Nat) (Option.some Jvm.ClassFile.FieldType.boolean), Jvm.Cond.code ({ cls := "java/util/ArrayList", name := "add", desc := "(Ljava/lang/Object;[Ljava/lang/Object;I)V" } : Jvm.MethodName) jdk_38_method_24_code (4 : Nat) (Option.none : Option Jvm.ClassFile.FieldType), Jvm.Cond.code ({ cls := "java/util/ArrayList", name := "grow", desc := "()[Ljava/lang/Object;" } : Jvm.MethodName) jdk_38_method_7_code (1 : Nat) (Option.some (Jvm.ClassFile.FieldType.array (Jvm.ClassFile.FieldType.object "java/lang/Object"))), Jvm.Cond.code ({ cls := "java/util/ArrayList", name := "grow", desc := "(I)[Ljava/lang/Object;" } : Jvm.MethodName) jdk_38_method_6_code (4 : Nat) (Option.some (Jvm.ClassFile.FieldType.array (Jvm.ClassFile.FieldType.object "java/lang/Object"))), Jvm.Cond.code ({ cls := "java/lang/Math", name := "max", desc := "(II)I" } : Jvm.MethodName) jdk_29_method_65_code (2 : Nat) (Option.some Jvm.ClassFile.FieldType.int), Jvm.Cond.code ({ cls := "com/example/witnesseth/witnesseth/HeadingLine", name := "<init>", desc := "(ILcom/example/witnesseth/witnesseth/Heading$Kind;Ljava/lang/String;Ljava/util/List;Ljava/lang/String;ZLcom/example/witnesseth/witnesseth/HeadingLine$Form;)V" } : Jvm.MethodName) prog_64_method_1_code (8 : Nat) (Option.none : Option Jvm.ClassFile.FieldType), Jvm.Cond.code ({ cls := "java/lang/Record", name := "<init>", desc := "()V" } : Jvm.MethodName) jdk_30_method_1_code (1 : Nat) (Option.none : Option Jvm.ClassFile.FieldType), Jvm.Cond.code ({ cls := "com/example/witnesseth/witnesseth/HeadingLine", name := "article", desc := "()I" } : Jvm.MethodName) prog_64_method_12_code (1 : Nat) (Option.some Jvm.ClassFile.FieldType.int), Jvm.Cond.code ({ cls := "java/util/ArrayList", name := "get", desc := "(I)Ljava/lang/Object;" } : Jvm.MethodName) jdk_38_method_20_code (2 : Nat) (Option.some (Jvm.ClassFile.FieldType.object "java/lang/Object")), Jvm.Cond.code ({ cls := "java/util/Objects", name := "checkIndex", desc := "(II)I" } : Jvm.MethodName) jdk_31_method_17_code (2 : Nat) (Option.some Jvm.ClassFile.FieldType.int), Jvm.Cond.code ({ cls := "jdk/internal/util/Preconditions", name := "checkIndex", desc := "(IILjava/util/function/BiFunction;)I" } : Jvm.MethodName) jdk_41_method_11_code (3 : Nat) (Option.some Jvm.ClassFile.FieldType.int), Jvm.Cond.code ({ cls := "java/util/ArrayList", name := "elementData", desc := "(I)Ljava/lang/Object;" } : Jvm.MethodName) jdk_38_method_18_code (2 : Nat) (Option.some (Jvm.ClassFile.FieldType.object "java/lang/Object")), Jvm.Cond.code ({ cls := "java/lang/Integer", name := "intValue", desc := "()I" } : Jvm.MethodName) jdk_33_method_27_code (1 : Nat) (Option.some Jvm.ClassFile.FieldType.int), Jvm.Cond.code ({ cls := "com/example/witnesseth/witnesseth/HeadingLine", name := "holds", desc := "(Lcom/example/witnesseth/witnesseth/HeadingLine;)Z" } : Jvm.MethodName) prog_64_method_13_code (2 : Nat) (Option.some Jvm.ClassFile.FieldType.boolean), Jvm.Cond.code ({ cls := "java/lang/Integer", name := "<init>", desc := "(I)V" } : Jvm.MethodName) jdk_33_method_23_code (2 : Nat) (Option.none : Option Jvm.ClassFile.FieldType), Jvm.Cond.code ({ cls := "java/lang/Number", name := "<init>", desc := "()V" } : Jvm.MethodName) jdk_18_method_1_code (1 : Nat) (Option.none : Option Jvm.ClassFile.FieldType)]
set_option maxRecDepth 65536 in
theorem codes_eq : words1.filter isCode = codes1 := rfl
theorem w_codes : ∀ c ∈ words1.filter isCode, c.before args0 about1 = true := by
  rw [codes_eq]
  intro c hc
  simp only [codes1, List.mem_cons, List.not_mem_nil, or_false] at hc
  rcases hc with rfl | rfl | rfl | rfl | rfl | rfl | rfl | rfl | rfl | rfl | rfl | rfl | rfl | rfl | rfl | rfl | rfl | rfl | rfl | rfl | rfl | rfl
  · exact w_c0
  · exact w_c1
  · exact w_c2
  · exact w_c3
  · exact w_c4
  · exact w_c5
  · exact w_c6
  · exact w_c7
  · exact w_c8
  · exact w_c9
  · exact w_c10
  · exact w_c11
  · exact w_c12
  · exact w_c13
  · exact w_c14
  · exact w_c15
  · exact w_c16
  · exact w_c17
  · exact w_c18
  · exact w_c19
  · exact w_c20
  · exact w_c21
set_option maxRecDepth 65536 in
theorem w_t1 : (words1.take 24).all (fun c => isCode c || c.before args0 about1) = true := by decide +kernel
set_option maxRecDepth 65536 in
theorem w_t2 : ((words1.drop 24).take 24).all (fun c => isCode c || c.before args0 about1) = true := by decide +kernel
set_option maxRecDepth 65536 in
theorem w_t3 : (((words1.drop 24).drop 24).take 24).all (fun c => isCode c || c.before args0 about1) = true := by decide +kernel
set_option maxRecDepth 65536 in
theorem w_t4 : ((((words1.drop 24).drop 24).drop 24).take 24).all (fun c => isCode c || c.before args0 about1) = true := by decide +kernel
set_option maxRecDepth 65536 in
theorem w_t5 : (((((words1.drop 24).drop 24).drop 24).drop 24).take 24).all (fun c => isCode c || c.before args0 about1) = true := by decide +kernel
set_option maxRecDepth 65536 in
theorem w_t6 : ((((((words1.drop 24).drop 24).drop 24).drop 24).drop 24).take 24).all (fun c => isCode c || c.before args0 about1) = true := by decide +kernel
set_option maxRecDepth 65536 in
theorem w_t7 : (((((((words1.drop 24).drop 24).drop 24).drop 24).drop 24).drop 24).take 24).all (fun c => isCode c || c.before args0 about1) = true := by decide +kernel
set_option maxRecDepth 65536 in
theorem w_t8 : (((((((words1.drop 24).drop 24).drop 24).drop 24).drop 24).drop 24).drop 24).all (fun c => isCode c || c.before args0 about1) = true := by decide +kernel
theorem w_tables : (allAtoms (Jvm.Cond.code x code maxLocals ret :: tables_1)).before args0 about1 = true := by
  rw [allAtoms_all]
  show words1.all (fun c => c.before args0 about1) = true
  refine all_split ?_ w_codes
  rw [← List.take_append_drop 24 words1, List.all_append, w_t1, ← List.take_append_drop 24 (words1.drop 24), List.all_append, w_t2, ← List.take_append_drop 24 ((words1.drop 24).drop 24), List.all_append, w_t3, ← List.take_append_drop 24 (((words1.drop 24).drop 24).drop 24), List.all_append, w_t4, ← List.take_append_drop 24 ((((words1.drop 24).drop 24).drop 24).drop 24), List.all_append, w_t5, ← List.take_append_drop 24 (((((words1.drop 24).drop 24).drop 24).drop 24).drop 24), List.all_append, w_t6, ← List.take_append_drop 24 ((((((words1.drop 24).drop 24).drop 24).drop 24).drop 24).drop 24), List.all_append, w_t7, w_t8]
  rfl
set_option maxRecDepth 65536 in
theorem w_rest : rest_1_c.before args0 about1 = true := by decide +kernel
set_option maxRecDepth 65536 in
theorem w_case : (Jvm.Cond.and given_1 narrow_1).before args0 about1 = true := by decide +kernel
theorem w_applies : (headSpec (Jvm.Cond.code x code maxLocals ret :: tables_1) room_1).applies x e0.platform about1 = true :=
  (Spec.applies_iff w_frames).mpr ⟨w_running, w_runnable, w_alone, w_named, w_hears, w_ripe, w_room, w_tables⟩
theorem atStart : AtStart classFile x code maxLocals ret World_1 tables_1 room_1 Calls_1 rest_1 Pre_1 launch0 p0 e0 about1 theMethod args0 below0 :=
  ⟨lists_1, trivial, launch0.admits_env _ _ _, launch0.least_env, fairChoices_fair.cas, fairChoices_fair.clock, w_frames, w_args, w_heap, w_applies, trivial, w_rest, w_case⟩
end start1
theorem witness_1 : WitnessClaimed_1 := ⟨start1.p0, start1.e0, start1.about1, start1.theMethod, start1.args0, start1.below0, start1.atStart⟩
end Jvm.Pilot.@@N@@
