import JvmDerived
import JvmDerived.Pilot.@@N@@Statement
import JvmDerived.Pilot.@@N@@Code
set_option linter.unusedVariables false
set_option linter.unusedSimpArgs false
namespace Jvm.RoadKit
open Sem ClassFile Op Lib Jvm.Stand Jvm.Free Jvm.LawKit
section New
variable {p : Program} {l : Launch} {e : Env} {R : Room} {s : State} {m : MethodId} {args : Array Value} {below : List Frame} {meth : Method} {c : Code} {T : State} {locs : List Loc} {cells slots : Nat}
theorem retI (X : Stand p l e R s m args below meth c T locs cells slots) (hx : p.tables.exec = Jvm.exec) {pc : Nat} {Ls : Array Slot} {z : Int32} {rest : List Value} (hret : meth.sig.returnType = some .int) (hd : decode c.code pc = .ok (.ireturn, 1)) {fs : List Frame}
    (hl : ∀ (f : JFrame) (acts : List Action), f.method = m → f.locked = none → f.entered = [] → (doReturn e (T.setTop f) acts (some (.int z))).1 = T.setFrames fs) : Steps p.tables e below (T.setTop (mkF m pc Ls (.int z :: rest))) (T.setFrames fs) := by
  have hm' : T.vm.method? m = some meth := X.method'
  have hn : narrow .int (.int z) = .int z := rfl
  show Steps p.tables e below (T.setTop { method := m, pc := pc, locals := Ls, stack := _ :: rest, locked := none }) _
  jvm_step X.here [X.here.top, hx, hd, hm', hret, hn]
  first | (intro acts; rw [hl _ acts rfl rfl rfl]) | rw [hl _ _ rfl rfl rfl]
  exact Steps.refl _
end New
end Jvm.RoadKit
namespace Jvm.Pilot.@@N@@
open Jvm Jvm.ClassFile Sem Op Lib Jvm.Free Jvm.Stand Jvm.LawKit Jvm.RoadKit Bundle Jvm.Pilot.@@N@@.Jvm.D
def own_Go {p : Program} {l : Launch} {e : Env} {R : Room} {s : State} {m : MethodId} {args : Array Value} {below : List Frame} {meth : Method} {c : Code} {T : State} {locs : List Loc} {cells slots : Nat} (_ : Stand p l e R s m args below meth c T locs cells slots) (h : Heap) (T' : State) : Prop := Stand p l e R s m args below meth c T' locs cells slots ∧ T'.heap = h
def own_up (f : Nat → Int32) (i : Nat) (x : Int32) : Nat → Int32 := fun j => if j = i then x else f j
def own_G (Z : State) (h : Heap) (n0 : Nat) (g P M S F : Addr) (n sz : Int32) (f : Nat → Int32) : Prop := Exa Z h g "com/example/doorway/doorway/checker/StateGraph" ∧ Fld Z h g "com/example/doorway/doorway/checker/StateGraph" "processes" "I" (.int n) ∧ Fld Z h g "com/example/doorway/doorway/checker/StateGraph" "size" "I" (.int sz) ∧ Fld Z h g "com/example/doorway/doorway/checker/StateGraph" "parents" "[I" (.ref P) ∧ Fld Z h g "com/example/doorway/doorway/checker/StateGraph" "movers" "[I" (.ref M) ∧ Fld Z h g "com/example/doorway/doorway/checker/StateGraph" "successors" "[I" (.ref S) ∧ Fld Z h g "com/example/doorway/doorway/checker/StateGraph" "facts" "[B" (.ref F) ∧ (∃ c, Arr Z h P c .int ∧ c.slots.size = 1024) ∧ (∃ c, Arr Z h M c .int ∧ c.slots.size = 1024) ∧ (∃ c, Arr Z h S c .int ∧ c.slots.size = 1024 * n.toNatClampNeg) ∧ (∃ c, Arr Z h F c .byte ∧ c.slots.size = 1024 * n.toNatClampNeg ∧ ∀ i, i < 1024 * n.toNatClampNeg → c.slots[i]? = some (.int (f i))) ∧ (n0 ≤ g ∧ n0 ≤ P ∧ n0 ≤ M ∧ n0 ≤ S ∧ n0 ≤ F) ∧ (g ≠ P ∧ g ≠ M ∧ g ≠ S ∧ g ≠ F ∧ P ≠ M ∧ P ≠ S ∧ P ≠ F ∧ M ≠ S ∧ M ≠ F ∧ S ≠ F)
def own_c (c0 c1 c2 c3 : Addr) (k : Int32) : Addr := if k = (0 : Int32) then c0 else if k = (1 : Int32) then c1 else if k = (2 : Int32) then c2 else c3
def own_R (Z : State) (r : Addr) (k : Int32) : Prop := Exa Z Z.heap r "com/example/doorway/doorway/model/Region" ∧ Fld Z Z.heap r "java/lang/Enum" "ordinal" "I" (.int k)
def own_W (Z : State) (c0 c1 c2 c3 : Addr) (ra : Addr) (cl : Cell) : Prop := Sta Z Z.heap "com/example/doorway/doorway/model/Region" "REMAINDER" "Lcom/example/doorway/doorway/model/Region;" (.ref c0) ∧ Sta Z Z.heap "com/example/doorway/doorway/model/Region" "TRYING" "Lcom/example/doorway/doorway/model/Region;" (.ref c1) ∧ Sta Z Z.heap "com/example/doorway/doorway/model/Region" "CRITICAL" "Lcom/example/doorway/doorway/model/Region;" (.ref c2) ∧ Sta Z Z.heap "com/example/doorway/doorway/model/Region" "EXIT" "Lcom/example/doorway/doorway/model/Region;" (.ref c3) ∧ own_R Z c0 (0 : Int32) ∧ own_R Z c1 (1 : Int32) ∧ own_R Z c2 (2 : Int32) ∧ own_R Z c3 (3 : Int32)
theorem own_i32 {z k : Int32} (h : z.toInt = k.toInt) : z = k := Int32.toInt_inj.mp h
def own_four (n : Int32) : Prop := n = (1 : Int32) ∨ n = (2 : Int32) ∨ n = (3 : Int32) ∨ n = (4 : Int32)
theorem own_nf {s : State} {args : Array Value} {C D n d n' d' : String} (hs : (Jvm.Cond.selects D ⟨C, n, d⟩ ⟨C, n, d⟩).before args s = true) (hd : (Jvm.Cond.declares ⟨C, n, d⟩).before args s = true) : NotFace s ⟨C, n', d'⟩ := fun r0 h0 => by
  obtain ⟨r1, r, hn, -⟩ := Cond.declares_spec hd
  obtain ⟨k, hk, hi⟩ := notFace_of_selects hs r1 hn
  have e1 := findClass_of_methodNamed hn
  have e2 := findClass_of_methodNamed h0
  have e3 : r1.cls = r0.cls := Option.some.inj (e1.symm.trans e2)
  exact ⟨k, by rw [← e3]; exact hk, hi⟩
theorem own_selP {s : State} {args : Array Value} {C D n d n' d' : String} (hs : (Jvm.Cond.selects D ⟨C, n, d⟩ ⟨C, n, d⟩).before args s = true) (hd : (Jvm.Cond.declares ⟨C, n, d⟩).before args s = true) (hi : (Jvm.Cond.instanceMethod ⟨C, n', d'⟩).before args s = true) (hp : (Jvm.Cond.privateMethod ⟨C, n', d'⟩).before args s = true) (hy : C ≠ "java/lang/invoke/MethodHandle" ∧ C ≠ "java/lang/invoke/VarHandle") : (Jvm.Cond.selects C ⟨C, n', d'⟩ ⟨C, n', d'⟩).before args s = true := by
  obtain ⟨mk, methM, hnamed, hmethM, -, -⟩ := Cond.instanceMethod_spec hi
  obtain ⟨k, hk, hik⟩ := own_nf (n' := n') (d' := d') hs hd mk hnamed
  have hf := State.methodFound?_of_named hnamed hy
  have hc := findClass_of_methodNamed hnamed
  have hsl := selectMethod_private (p := {}) (c := mk.cls) hmethM (Cond.privateMethod_at hp mk methM hnamed hmethM)
  simp [Cond.before, Cond.holds, Cond.value, hc, hf, hnamed, hsl, hk, hik]
theorem own_inb {i : Int32} {m c : Nat} (hc : c = m) (h : 0 ≤ i.toInt ∧ i.toNatClampNeg < m) : ¬ (i < 0 ∨ c ≤ i.toNatClampNeg) := by
  rw [Int32.lt_iff_toInt_lt, show (0 : Int32).toInt = 0 from by decide]; omega
theorem own_setF {c : Cell} {m i : Nat} {f : Nat → Int32} {x : Int32} (hz : c.slots.size = m) (hi : i < m) (hv : ∀ j, j < m → c.slots[j]? = some (.int (f j))) : ∀ j, j < m → (c.setSlot i (.int x)).slots[j]? = some (.int (own_up f i x j)) := fun j hj => by
  by_cases e : j = i
  · subst e; simp [Cell.setSlot, own_up, hz, hi]
  · simp only [Cell.setSlot, own_up, if_neg e]; rw [Array.getElem?_setIfInBounds_ne (Ne.symm e)]; exact hv j hj
theorem own_d8_0 : decode jdk_37_method_2_code 0 = .ok (.aload_n 0, 1) := by decide +kernel
theorem own_d8_1 : decode jdk_37_method_2_code 1 = .ok (.getfield 7, 3) := by decide +kernel
theorem own_d8_4 : decode jdk_37_method_2_code 4 = .ok (.ireturn, 1) := by decide +kernel
def own_P (r : Value) (h0 : Heap) (v : Option Value) (h : Heap) (L : List Loc) : Prop := v = some r ∧ L = [] ∧ h = h0
theorem own_ef8 (m : MethodId) (x0 : Addr) : entryFrame m #[(.ref x0)] 1 = mkF m 0 #[.val (.ref x0)] [] := by first | (simp [entryFrame, mkF, argsToLocals, Value.category]; done) | rfl
theorem own_pn0 : plainName "java/lang/Enum" = true := by first | (simp [plainName, overriddenIn]; done) | decide +kernel
set_option maxRecDepth 65536 in
set_option maxHeartbeats 40000000 in
theorem own_ord (l : Launch) (Z : State) (a0 : Array Value) (hw : ∀ d ∈ tables_1, d.before a0 Z = true) (ws : List Jvm.Cond) (a1 : Addr) (k : Int32) (h0 : Heap) (n0 : Nat) (O0 : Old Z n0 h0) (OR : Fld Z Z.heap a1 "java/lang/Enum" "ordinal" "I" (.int k)) :
    MetFree l (⟨"java/lang/Enum", "ordinal", "()I"⟩ : MethodName) (head1 (Jvm.Cond.code (⟨"java/lang/Enum", "ordinal", "()I"⟩ : MethodName) jdk_37_method_2_code 1 (some .int) :: ws) ({ frames := 0, cells := 0, slots := 0, locals := 0 } : Room)) (fun aa_ U_ => aa_ = #[(.ref a1)] ∧ Z.Warmed39 U_.vm ∧ U_.heap = h0) (fun _ _ _ _ _ => True) (fun _ U_ oo_ UU_ => ∃ vv_ LL_, oo_ = .returned vv_ ∧ own_P (.int k) h0 vv_ UU_.heap LL_ ∧ FrameEnd U_ oo_ UU_ LL_ ({ frames := 0, cells := 0, slots := 0, locals := 0 } : Room).cells ({ frames := 0, cells := 0, slots := 0, locals := 0 } : Room).slots) := by
  refine MetFree.of_bodySF (plainFor_of_name own_pn0) hisR ?_
  intro p e s m args below meth c s₁ Bd hml0 hP hK
  obtain ⟨rfl, hZ, hh⟩ := hP
  have hx := Bd.exec
  have hby := Bd.bytes
  have hml : c.maxLocals = 1 := hml0
  have hown : s.vm.findClass "java/lang/Enum" = some m.cls := findClass_of_methodNamed Bd.named
  have hnm := (name_of_methodNamed Bd.named Bd.method).1
  have X0 : Stand p l e ({ frames := 0, cells := 0, slots := 0, locals := 0 } : Room) s m #[(.ref a1)] below meth c s₁ [] 0 0 := Stand.of_body Bd
  have e0 : s₁.heap = h0 := by rw [← hh, Bd.state]; rfl
  have N0 := Fr.nil n0
  have pre0 : ∀ t, Steps p.tables e below (s₁.setTop (mkF m 0 #[.val (.ref a1)] [])) t → Steps p.tables e below (s₁.setTop (entryFrame m #[(.ref a1)] 1)) t := fun t k => castTop (own_ef8 m a1) k
  obtain ⟨T1, X1, e1, st1⟩ := getF X0 hx hZ hown (host := "") (Or.inl (hw _ (List.mem_of_getElem? (i := 57) rfl))) Via.refl e0 (OR.ext O0.2) (g := (mkF m 1 #[.val (.ref a1)] [(.ref a1)])) rfl rfl (hb hby own_d8_1)
  obtain ⟨fs, hr, hrun, hended, hW, hsame⟩ := X1.leave (v := some (.int k)) (fun h => by rw [Bd.returns] at h; cases h)
  refine ⟨_, _, pre0 _ ?_, hrun, hended, _, _, rfl, ?_, ⟨_, rfl⟩, hW, hsame.mono (by decide) (by decide)⟩
  · show Steps p.tables e below (s₁.setTop (mkF m 0 #[.val (.ref a1)] [])) _
    refine XS.aloadN X0.here hx rfl (hb hby own_d8_0) rfl rfl ?_
    show Steps p.tables e below (s₁.setTop (mkF m 1 #[.val (.ref a1)] [(.ref a1)])) _
    refine st1 _ ?_
    show Steps p.tables e below (T1.setTop (mkF m 4 #[.val (.ref a1)] [(.int k)])) _
    exact retI X1 hx Bd.returns (hb hby own_d8_4) hr
  · show own_P (.int k) h0 _ T1.heap _
    rw [e1]
    exact ⟨rfl, rfl, rfl⟩
theorem own_d4_0 : decode jdk_29_method_28_code 0 = .ok (.iload_n 0, 1) := by decide +kernel
theorem own_d4_1 : decode jdk_29_method_28_code 1 = .ok (.i2l, 1) := by decide +kernel
theorem own_d4_2 : decode jdk_29_method_28_code 2 = .ok (.iload_n 1, 1) := by decide +kernel
theorem own_d4_3 : decode jdk_29_method_28_code 3 = .ok (.i2l, 1) := by decide +kernel
theorem own_d4_4 : decode jdk_29_method_28_code 4 = .ok (.lmul, 1) := by decide +kernel
theorem own_d4_5 : decode jdk_29_method_28_code 5 = .ok (.lstore_n 2, 1) := by decide +kernel
theorem own_d4_6 : decode jdk_29_method_28_code 6 = .ok (.lload_n 2, 1) := by decide +kernel
theorem own_d4_7 : decode jdk_29_method_28_code 7 = .ok (.l2i, 1) := by decide +kernel
theorem own_d4_8 : decode jdk_29_method_28_code 8 = .ok (.i2l, 1) := by decide +kernel
theorem own_d4_9 : decode jdk_29_method_28_code 9 = .ok (.lload_n 2, 1) := by decide +kernel
theorem own_d4_10 : decode jdk_29_method_28_code 10 = .ok (.lcmp, 1) := by decide +kernel
theorem own_d4_11 : decode jdk_29_method_28_code 11 = .ok (.ifCond .eq 13, 3) := by decide +kernel
theorem own_d4_24 : decode jdk_29_method_28_code 24 = .ok (.lload_n 2, 1) := by decide +kernel
theorem own_d4_25 : decode jdk_29_method_28_code 25 = .ok (.l2i, 1) := by decide +kernel
theorem own_d4_26 : decode jdk_29_method_28_code 26 = .ok (.ireturn, 1) := by decide +kernel
theorem own_ef4 (m : MethodId) (x0 : Int32) (x1 : Int32) : entryFrame m #[(.int x0), (.int x1)] 4 = mkF m 0 #[.val (.int x0), .val (.int x1), .unset, .unset] [] := by first | (simp [entryFrame, mkF, argsToLocals, Value.category]; done) | rfl
set_option maxRecDepth 65536 in
set_option maxHeartbeats 40000000 in
theorem own_mul (l : Launch) (Z : State) (a0 : Array Value) (hw : ∀ d ∈ tables_1, d.before a0 Z = true) (ws : List Jvm.Cond) (p1 p2 : Int32) (h0 : Heap) (n0 : Nat) (O0 : Old Z n0 h0) (hm : ((p1.toInt64 * p2.toInt64).toInt32).toInt64 = (p1.toInt64 * p2.toInt64)) :
    MetFree l (⟨"java/lang/Math", "multiplyExact", "(II)I"⟩ : MethodName) (head1 (Jvm.Cond.code (⟨"java/lang/Math", "multiplyExact", "(II)I"⟩ : MethodName) jdk_29_method_28_code 4 (some .int) :: ws) ({ frames := 0, cells := 0, slots := 0, locals := 0 } : Room)) (fun aa_ U_ => aa_ = #[(.int p1), (.int p2)] ∧ Z.Warmed39 U_.vm ∧ U_.heap = h0) (fun _ _ _ _ _ => True) (fun _ U_ oo_ UU_ => ∃ vv_ LL_, oo_ = .returned vv_ ∧ own_P (.int (p1.toInt64 * p2.toInt64).toInt32) h0 vv_ UU_.heap LL_ ∧ FrameEnd U_ oo_ UU_ LL_ ({ frames := 0, cells := 0, slots := 0, locals := 0 } : Room).cells ({ frames := 0, cells := 0, slots := 0, locals := 0 } : Room).slots) := by
  refine MetFree.of_bodySF (Jvm.Free.JP.mathPlain rfl (by decide +kernel)) hisR ?_
  intro p e s m args below meth c s₁ Bd hml0 hP hK
  obtain ⟨rfl, hZ, hh⟩ := hP
  have hx := Bd.exec
  have hby := Bd.bytes
  have hml : c.maxLocals = 4 := hml0
  have hown : s.vm.findClass "java/lang/Math" = some m.cls := findClass_of_methodNamed Bd.named
  have hnm := (name_of_methodNamed Bd.named Bd.method).1
  have X0 : Stand p l e ({ frames := 0, cells := 0, slots := 0, locals := 0 } : Room) s m #[(.int p1), (.int p2)] below meth c s₁ [] 0 0 := Stand.of_body Bd
  have e0 : s₁.heap = h0 := by rw [← hh, Bd.state]; rfl
  have N0 := Fr.nil n0
  have pre0 : ∀ t, Steps p.tables e below (s₁.setTop (mkF m 0 #[.val (.int p1), .val (.int p2), .unset, .unset] [])) t → Steps p.tables e below (s₁.setTop (entryFrame m #[(.int p1), (.int p2)] 4)) t := fun t k => castTop (own_ef4 m p1 p2) k
  obtain ⟨fs, hr, hrun, hended, hW, hsame⟩ := X0.leave (v := some (.int (((p1.toInt64) * (p2.toInt64)).toInt32))) (fun h => by rw [Bd.returns] at h; cases h)
  refine ⟨_, _, pre0 _ ?_, hrun, hended, _, _, rfl, ?_, ⟨_, rfl⟩, hW, hsame.mono (by decide) (by decide)⟩
  · show Steps p.tables e below (s₁.setTop (mkF m 0 #[.val (.int p1), .val (.int p2), .unset, .unset] [])) _
    refine XS.iloadN X0.here hx rfl (hb hby own_d4_0) rfl ?_
    show Steps p.tables e below (s₁.setTop (mkF m 1 #[.val (.int p1), .val (.int p2), .unset, .unset] [(.int p1)])) _
    refine XS.i2l X0.here hx rfl (hb hby own_d4_1) rfl ?_
    show Steps p.tables e below (s₁.setTop (mkF m 2 #[.val (.int p1), .val (.int p2), .unset, .unset] [(.long (p1.toInt64))])) _
    refine XS.iloadN X0.here hx rfl (hb hby own_d4_2) rfl ?_
    show Steps p.tables e below (s₁.setTop (mkF m 3 #[.val (.int p1), .val (.int p2), .unset, .unset] [(.int p2), (.long (p1.toInt64))])) _
    refine XS.i2l X0.here hx rfl (hb hby own_d4_3) rfl ?_
    show Steps p.tables e below (s₁.setTop (mkF m 4 #[.val (.int p1), .val (.int p2), .unset, .unset] [(.long (p2.toInt64)), (.long (p1.toInt64))])) _
    refine XS.lmul X0.here hx rfl (hb hby own_d4_4) rfl ?_
    show Steps p.tables e below (s₁.setTop (mkF m 5 #[.val (.int p1), .val (.int p2), .unset, .unset] [(.long ((p1.toInt64) * (p2.toInt64)))])) _
    refine XS.lstoreN X0.here hx rfl (hb hby own_d4_5) rfl (l' := #[.val (.int p1), .val (.int p2), .val (.long ((p1.toInt64) * (p2.toInt64))), .second]) rfl ?_
    show Steps p.tables e below (s₁.setTop (mkF m 6 #[.val (.int p1), .val (.int p2), .val (.long ((p1.toInt64) * (p2.toInt64))), .second] [])) _
    refine XS.lloadN X0.here hx rfl (hb hby own_d4_6) rfl ?_
    show Steps p.tables e below (s₁.setTop (mkF m 7 #[.val (.int p1), .val (.int p2), .val (.long ((p1.toInt64) * (p2.toInt64))), .second] [(.long ((p1.toInt64) * (p2.toInt64)))])) _
    refine XS.l2i X0.here hx rfl (hb hby own_d4_7) rfl ?_
    show Steps p.tables e below (s₁.setTop (mkF m 8 #[.val (.int p1), .val (.int p2), .val (.long ((p1.toInt64) * (p2.toInt64))), .second] [(.int (((p1.toInt64) * (p2.toInt64)).toInt32))])) _
    refine XS.i2l X0.here hx rfl (hb hby own_d4_8) rfl ?_
    show Steps p.tables e below (s₁.setTop (mkF m 9 #[.val (.int p1), .val (.int p2), .val (.long ((p1.toInt64) * (p2.toInt64))), .second] [(.long ((((p1.toInt64) * (p2.toInt64)).toInt32).toInt64))])) _
    refine XS.lloadN X0.here hx rfl (hb hby own_d4_9) rfl ?_
    show Steps p.tables e below (s₁.setTop (mkF m 10 #[.val (.int p1), .val (.int p2), .val (.long ((p1.toInt64) * (p2.toInt64))), .second] [(.long ((p1.toInt64) * (p2.toInt64))), (.long ((((p1.toInt64) * (p2.toInt64)).toInt32).toInt64))])) _
    refine XS.lcmp X0.here hx rfl (hb hby own_d4_10) rfl ?_
    show Steps p.tables e below (s₁.setTop (mkF m 11 #[.val (.int p1), .val (.int p2), .val (.long ((p1.toInt64) * (p2.toInt64))), .second] [(.int (lcmpW ((((p1.toInt64) * (p2.toInt64)).toInt32).toInt64) ((p1.toInt64) * (p2.toInt64))))])) _
    refine XS.ifYes X0.here hx rfl (pc0 := 11) (pc' := 24) rfl (hb hby own_d4_11) rfl ((if0 _ _).trans (teq ((lw_eq _ _).mpr hm)).1) (by decide) (by decide) ?_
    show Steps p.tables e below (s₁.setTop (mkF m 24 #[.val (.int p1), .val (.int p2), .val (.long ((p1.toInt64) * (p2.toInt64))), .second] [])) _
    refine XS.lloadN X0.here hx rfl (hb hby own_d4_24) rfl ?_
    show Steps p.tables e below (s₁.setTop (mkF m 25 #[.val (.int p1), .val (.int p2), .val (.long ((p1.toInt64) * (p2.toInt64))), .second] [(.long ((p1.toInt64) * (p2.toInt64)))])) _
    refine XS.l2i X0.here hx rfl (hb hby own_d4_25) rfl ?_
    show Steps p.tables e below (s₁.setTop (mkF m 26 #[.val (.int p1), .val (.int p2), .val (.long ((p1.toInt64) * (p2.toInt64))), .second] [(.int (((p1.toInt64) * (p2.toInt64)).toInt32))])) _
    exact retI X0 hx Bd.returns (hb hby own_d4_26) hr
  · show own_P (.int (p1.toInt64 * p2.toInt64).toInt32) h0 _ s₁.heap _
    rw [e0]
    exact ⟨rfl, rfl, rfl⟩
theorem own_d3_0 : decode prog_46_method_15_code 0 = .ok (.iload_n 1, 1) := by decide +kernel
theorem own_d3_1 : decode prog_46_method_15_code 1 = .ok (.aload_n 0, 1) := by decide +kernel
theorem own_d3_2 : decode prog_46_method_15_code 2 = .ok (.getfield 16, 3) := by decide +kernel
theorem own_d3_5 : decode prog_46_method_15_code 5 = .ok (.invokestatic 86, 3) := by decide +kernel
theorem own_pd0 : parseMethodDescriptor "(II)I" = some ⟨[.int, .int], some .int⟩ := by decide +kernel
theorem own_d3_8 : decode prog_46_method_15_code 8 = .ok (.ireturn, 1) := by decide +kernel
theorem own_ef3 (m : MethodId) (x0 : Addr) (x1 : Int32) : entryFrame m #[(.ref x0), (.int x1)] 2 = mkF m 0 #[.val (.ref x0), .val (.int x1)] [] := by first | (simp [entryFrame, mkF, argsToLocals, Value.category]; done) | rfl
theorem own_pn1 : plainName "com/example/doorway/doorway/checker/StateGraph" = true := by first | (simp [plainName, overriddenIn]; done) | decide +kernel
set_option maxRecDepth 65536 in
set_option maxHeartbeats 40000000 in
theorem own_slots (l : Launch) (Z : State) (a0 : Array Value) (hw : ∀ d ∈ tables_1, d.before a0 Z = true) (ws : List Jvm.Cond) (g : Addr) (p1 n : Int32) (h0 : Heap) (n0 : Nat) (O0 : Old Z n0 h0) (Fp : Fld Z h0 g "com/example/doorway/doorway/checker/StateGraph" "processes" "I" (.int n)) (hm : ((p1.toInt64 * n.toInt64).toInt32).toInt64 = (p1.toInt64 * n.toInt64)) :
    MetFree l (⟨"com/example/doorway/doorway/checker/StateGraph", "slots", "(I)I"⟩ : MethodName) (head1 (Jvm.Cond.code (⟨"com/example/doorway/doorway/checker/StateGraph", "slots", "(I)I"⟩ : MethodName) prog_46_method_15_code 2 (some .int) :: ws) ({ frames := 1, cells := 0, slots := 0, locals := 15 } : Room)) (fun aa_ U_ => aa_ = #[(.ref g), (.int p1)] ∧ Z.Warmed39 U_.vm ∧ U_.heap = h0) (fun _ _ _ _ _ => True) (fun _ U_ oo_ UU_ => ∃ vv_ LL_, oo_ = .returned vv_ ∧ own_P (.int (p1.toInt64 * n.toInt64).toInt32) h0 vv_ UU_.heap LL_ ∧ FrameEnd U_ oo_ UU_ LL_ ({ frames := 1, cells := 0, slots := 0, locals := 15 } : Room).cells ({ frames := 1, cells := 0, slots := 0, locals := 15 } : Room).slots) := by
  refine MetFree.of_bodySF (plainFor_of_name own_pn1) hisR ?_
  intro p e s m args below meth c s₁ Bd hml0 hP hK
  obtain ⟨rfl, hZ, hh⟩ := hP
  have hx := Bd.exec
  have hby := Bd.bytes
  have hml : c.maxLocals = 2 := hml0
  have hown : s.vm.findClass "com/example/doorway/doorway/checker/StateGraph" = some m.cls := findClass_of_methodNamed Bd.named
  have hnm := (name_of_methodNamed Bd.named Bd.method).1
  have X0 : Stand p l e ({ frames := 1, cells := 0, slots := 0, locals := 15 } : Room) s m #[(.ref g), (.int p1)] below meth c s₁ [] 0 0 := Stand.of_body Bd
  have e0 : s₁.heap = h0 := by rw [← hh, Bd.state]; rfl
  have N0 := Fr.nil n0
  have pre0 : ∀ t, Steps p.tables e below (s₁.setTop (mkF m 0 #[.val (.ref g), .val (.int p1)] [])) t → Steps p.tables e below (s₁.setTop (entryFrame m #[(.ref g), (.int p1)] 2)) t := fun t k => castTop (own_ef3 m g p1) k
  obtain ⟨T1, X1, e1, st1⟩ := getF X0 hx hZ hown (host := "") (Or.inl (hw _ (List.mem_of_getElem? (i := 14) rfl))) Via.refl e0 Fp (g := (mkF m 2 #[.val (.ref g), .val (.int p1)] [(.ref g), (.int p1)])) rfl rfl (hb hby own_d3_2)
  obtain ⟨_, _, ⟨T2, L2, k2, n2⟩, -, X2, ⟨Lc2, hQ2, l2, y2, z2⟩, st2⟩ := Jvm.LawKit.callS X1 hx (y := (⟨"java/lang/Math", "multiplyExact", "(II)I"⟩ : MethodName)) hown (mvT hZ (hw _ (List.mem_of_getElem? (i := 22) rfl))) (mvT hZ (hw _ (List.mem_of_getElem? (i := 23) rfl))) (mvT hZ (hw _ (List.mem_of_getElem? (i := 24) rfl))) (mvT hZ (hw _ (List.mem_of_getElem? (i := 25) rfl))) (by decide) (backOf (W := 0) (own_mul l Z a0 hw [] p1 n h0 n0 O0 hm) hZ (hw _ (List.mem_of_getElem? (i := 25) rfl)) (hw _ (List.mem_of_getElem? (i := 24) rfl)) (by decide) (by decide)) (g := (mkF m 5 #[.val (.ref g), .val (.int p1)] [(.int n), (.int p1)])) rfl (by rw [hml]; rfl) (argsL := [(.int p1), (.int n)]) (rest := []) (lenOf own_pd0 rfl) rfl (by show 2 * 0 + _ ≤ _; exact Nat.le_of_eq rfl) (hb hby own_d3_5) (fun _ _ => ⟨rfl, e1, (by decide : 0 + 0 ≤ _), (by decide : 0 + 0 ≤ _)⟩)
  dsimp only [Pt.U, Pt.locs, Pt.cells, Pt.slots] at X2 l2 y2 z2 st2 hQ2
  subst l2 y2 z2
  obtain ⟨rfl, rfl, e2⟩ := hQ2
  try rw [List.append_nil] at X2
  obtain ⟨fs, hr, hrun, hended, hW, hsame⟩ := X2.leave (v := some (.int (p1.toInt64 * n.toInt64).toInt32)) (fun h => by rw [Bd.returns] at h; cases h)
  refine ⟨_, _, pre0 _ ?_, hrun, hended, _, _, rfl, ?_, ⟨_, rfl⟩, hW, hsame.mono (by decide) (by decide)⟩
  · show Steps p.tables e below (s₁.setTop (mkF m 0 #[.val (.ref g), .val (.int p1)] [])) _
    refine XS.iloadN X0.here hx rfl (hb hby own_d3_0) rfl ?_
    show Steps p.tables e below (s₁.setTop (mkF m 1 #[.val (.ref g), .val (.int p1)] [(.int p1)])) _
    refine XS.aloadN X0.here hx rfl (hb hby own_d3_1) rfl rfl ?_
    show Steps p.tables e below (s₁.setTop (mkF m 2 #[.val (.ref g), .val (.int p1)] [(.ref g), (.int p1)])) _
    refine st1 _ ?_
    show Steps p.tables e below (T1.setTop (mkF m 5 #[.val (.ref g), .val (.int p1)] [(.int n), (.int p1)])) _
    refine st2 _ ?_
    show Steps p.tables e below (T2.setTop (mkF m 8 #[.val (.ref g), .val (.int p1)] [(.int (p1.toInt64 * n.toInt64).toInt32)])) _
    exact retI X2 hx Bd.returns (hb hby own_d3_8) hr
  · show own_P (.int (p1.toInt64 * n.toInt64).toInt32) h0 _ T2.heap _
    rw [e2]
    exact ⟨rfl, rfl, rfl⟩
theorem own_sl {n : Int32} (h : own_four n) : (((1024 : Int32).toInt64 * n.toInt64).toInt32).toInt64 = ((1024 : Int32).toInt64 * n.toInt64) := by rcases h with rfl | rfl | rfl | rfl <;> decide
theorem own_sl2 {n m : Int32} (h : own_four n) (e : m = (((1024 : Int32).toInt64 * n.toInt64).toInt32)) : ¬ m < 0 ∧ m.toNatClampNeg ≤ 4096 ∧ m.toNatClampNeg = 1024 * n.toNatClampNeg := by subst e; rcases h with rfl | rfl | rfl | rfl <;> decide
theorem own_d1_0 : decode prog_46_method_1_code 0 = .ok (.aload_n 0, 1) := by decide +kernel
theorem own_d1_1 : decode prog_46_method_1_code 1 = .ok (.invokespecial 1, 3) := by decide +kernel
theorem own_d1_4 : decode prog_46_method_1_code 4 = .ok (.aload_n 0, 1) := by decide +kernel
theorem own_d1_5 : decode prog_46_method_1_code 5 = .ok (.sipush 1024, 3) := by decide +kernel
theorem own_d1_8 : decode prog_46_method_1_code 8 = .ok (.newarray .int, 2) := by decide +kernel
theorem own_d1_10 : decode prog_46_method_1_code 10 = .ok (.putfield 7, 3) := by decide +kernel
theorem own_d1_13 : decode prog_46_method_1_code 13 = .ok (.aload_n 0, 1) := by decide +kernel
theorem own_d1_14 : decode prog_46_method_1_code 14 = .ok (.sipush 1024, 3) := by decide +kernel
theorem own_d1_17 : decode prog_46_method_1_code 17 = .ok (.newarray .int, 2) := by decide +kernel
theorem own_d1_19 : decode prog_46_method_1_code 19 = .ok (.putfield 13, 3) := by decide +kernel
theorem own_d1_22 : decode prog_46_method_1_code 22 = .ok (.aload_n 0, 1) := by decide +kernel
theorem own_d1_23 : decode prog_46_method_1_code 23 = .ok (.iload_n 1, 1) := by decide +kernel
theorem own_d1_24 : decode prog_46_method_1_code 24 = .ok (.putfield 16, 3) := by decide +kernel
theorem own_d1_27 : decode prog_46_method_1_code 27 = .ok (.aload_n 0, 1) := by decide +kernel
theorem own_d1_28 : decode prog_46_method_1_code 28 = .ok (.iload_n 2, 1) := by decide +kernel
theorem own_d1_29 : decode prog_46_method_1_code 29 = .ok (.putfield 20, 3) := by decide +kernel
theorem own_d1_32 : decode prog_46_method_1_code 32 = .ok (.iload_n 2, 1) := by decide +kernel
theorem own_d1_33 : decode prog_46_method_1_code 33 = .ok (.ifCond .eq 29, 3) := by decide +kernel
theorem own_d1_36 : decode prog_46_method_1_code 36 = .ok (.aload_n 0, 1) := by decide +kernel
theorem own_d1_37 : decode prog_46_method_1_code 37 = .ok (.aload_n 0, 1) := by decide +kernel
theorem own_d1_38 : decode prog_46_method_1_code 38 = .ok (.aload_n 0, 1) := by decide +kernel
theorem own_d1_39 : decode prog_46_method_1_code 39 = .ok (.getfield 7, 3) := by decide +kernel
theorem own_d1_42 : decode prog_46_method_1_code 42 = .ok (.arraylength, 1) := by decide +kernel
theorem own_d1_43 : decode prog_46_method_1_code 43 = .ok (.invokevirtual 24, 3) := by decide +kernel
theorem own_pd1 : parseMethodDescriptor "(I)I" = some ⟨[.int], some .int⟩ := by decide +kernel
theorem own_d1_46 : decode prog_46_method_1_code 46 = .ok (.newarray .int, 2) := by decide +kernel
theorem own_d1_48 : decode prog_46_method_1_code 48 = .ok (.putfield 28, 3) := by decide +kernel
theorem own_d1_51 : decode prog_46_method_1_code 51 = .ok (.aload_n 0, 1) := by decide +kernel
theorem own_d1_52 : decode prog_46_method_1_code 52 = .ok (.aload_n 0, 1) := by decide +kernel
theorem own_d1_53 : decode prog_46_method_1_code 53 = .ok (.getfield 28, 3) := by decide +kernel
theorem own_d1_56 : decode prog_46_method_1_code 56 = .ok (.arraylength, 1) := by decide +kernel
theorem own_d1_57 : decode prog_46_method_1_code 57 = .ok (.newarray .byte, 2) := by decide +kernel
theorem own_d1_59 : decode prog_46_method_1_code 59 = .ok (.putfield 31, 3) := by decide +kernel
theorem own_d1_62 : decode prog_46_method_1_code 62 = .ok (.return_, 1) := by decide +kernel
theorem own_zero {k : ClassId} {m : Int32} {q : Nat} (e : m.toNatClampNeg = q) : ∀ i, i < q → (newA k .byte m).slots[i]? = some (.int ((fun _ => (0 : Int32)) i)) := fun i hi => by
  subst e; simp [newA, hi, defaultValue]
def own_Qi (Z : State) (n0 : Nat) (g : Addr) (n : Int32) (v : Option Value) (h : Heap) (L : List Loc) : Prop := v = none ∧ Fr n0 L ∧ Old Z n0 h ∧ ∃ P M S F, own_G Z h n0 g P M S F n (0 : Int32) (fun _ => (0 : Int32))
theorem own_ef1 (m : MethodId) (x0 : Addr) (x1 : Int32) (x2 : Int32) : entryFrame m #[(.ref x0), (.int x1), (.int x2)] 3 = mkF m 0 #[.val (.ref x0), .val (.int x1), .val (.int x2)] [] := by first | (simp [entryFrame, mkF, argsToLocals, Value.category]; done) | rfl
set_option maxRecDepth 65536 in
set_option maxHeartbeats 40000000 in
theorem own_init (l : Launch) (Z : State) (a0 : Array Value) (hw : ∀ d ∈ tables_1, d.before a0 Z = true) (ws : List Jvm.Cond) (g : Addr) (n : Int32) (h0 : Heap) (n0 : Nat) (O0 : Old Z n0 h0) (gE : Exa Z h0 g "com/example/doorway/doorway/checker/StateGraph") (F_parents : Fld Z h0 g "com/example/doorway/doorway/checker/StateGraph" "parents" "[I" .null) (F_movers : Fld Z h0 g "com/example/doorway/doorway/checker/StateGraph" "movers" "[I" .null) (F_processes : Fld Z h0 g "com/example/doorway/doorway/checker/StateGraph" "processes" "I" (.int (0 : Int32))) (F_recordsSteps : Fld Z h0 g "com/example/doorway/doorway/checker/StateGraph" "recordsSteps" "Z" (.int (0 : Int32))) (F_successors : Fld Z h0 g "com/example/doorway/doorway/checker/StateGraph" "successors" "[I" .null) (F_facts : Fld Z h0 g "com/example/doorway/doorway/checker/StateGraph" "facts" "[B" .null) (F_size : Fld Z h0 g "com/example/doorway/doorway/checker/StateGraph" "size" "I" (.int (0 : Int32))) (ge_g : n0 ≤ g) (hfour : own_four n) :
    MetFree l (⟨"com/example/doorway/doorway/checker/StateGraph", "<init>", "(IZ)V"⟩ : MethodName) (head1 (Jvm.Cond.code (⟨"com/example/doorway/doorway/checker/StateGraph", "<init>", "(IZ)V"⟩ : MethodName) prog_46_method_1_code 3 none :: ws) ({ frames := 2, cells := 4, slots := 10240, locals := 29 } : Room)) (fun aa_ U_ => aa_ = #[(.ref g), (.int n), (.int (1 : Int32))] ∧ Z.Warmed39 U_.vm ∧ U_.heap = h0) (fun _ _ _ _ _ => True) (fun _ U_ oo_ UU_ => ∃ vv_ LL_, oo_ = .returned vv_ ∧ own_Qi Z n0 g n vv_ UU_.heap LL_ ∧ FrameEnd U_ oo_ UU_ LL_ ({ frames := 2, cells := 4, slots := 10240, locals := 29 } : Room).cells ({ frames := 2, cells := 4, slots := 10240, locals := 29 } : Room).slots) := by
  refine MetFree.of_bodySF (plainFor_of_name own_pn1) hisR ?_
  intro p e s m args below meth c s₁ Bd hml0 hP hK
  obtain ⟨rfl, hZ, hh⟩ := hP
  have hx := Bd.exec
  have hby := Bd.bytes
  have hml : c.maxLocals = 3 := hml0
  have hown : s.vm.findClass "com/example/doorway/doorway/checker/StateGraph" = some m.cls := findClass_of_methodNamed Bd.named
  have hnm := (name_of_methodNamed Bd.named Bd.method).1
  have X0 : Stand p l e ({ frames := 2, cells := 4, slots := 10240, locals := 29 } : Room) s m #[(.ref g), (.int n), (.int (1 : Int32))] below meth c s₁ [] 0 0 := Stand.of_body Bd
  have e0 : s₁.heap = h0 := by rw [← hh, Bd.state]; rfl
  have N0 := Fr.nil n0
  have pre0 : ∀ t, Steps p.tables e below (s₁.setTop (mkF m 0 #[.val (.ref g), .val (.int n), .val (.int (1 : Int32))] [])) t → Steps p.tables e below (s₁.setTop (entryFrame m #[(.ref g), (.int n), (.int (1 : Int32))] 3)) t := fun t k => castTop (own_ef1 m g n (1 : Int32)) k
  obtain ⟨T1, X1, e1, st1⟩ := initO X0 hx hZ hown (hw _ (List.mem_of_getElem? (i := 6) rfl)) (hw _ (List.mem_of_getElem? (i := 7) rfl)) (hw _ (List.mem_of_getElem? (i := 8) rfl)) e0 (g := (mkF m 1 #[.val (.ref g), .val (.int n), .val (.int (1 : Int32))] [(.ref g)])) rfl (by rw [hml]; rfl) rfl (hb hby own_d1_1) (by decide) (W := 0) (by show 2 * 0 + _ ≤ _; exact Nat.le_of_eq rfl) (by decide)
  obtain ⟨T2, h2, k2, X2, e2, E2, A2, st2⟩ := newP X1 hx hZ (hw _ (List.mem_of_getElem? (i := 9) rfl)) e1 (g := (mkF m 8 #[.val (.ref g), .val (.int n), .val (.int (1 : Int32))] [(.int (1024 : Int32)), (.ref g)])) rfl (hb hby own_d1_8) rfl (by decide) (cap := 1024) (by decide) (by decide) (by decide) (by decide)
  obtain ⟨P, g2⟩ : ∃ z, z = h0.size := ⟨_, rfl⟩
  have g_P : n0 ≤ P := Nat.le_trans (Nat.le_trans (Nat.le_of_eq O0.1.symm) O0.2.1) (Nat.le_of_eq g2.symm)
  have ne_g_P : g ≠ P := Nat.ne_of_lt (Nat.lt_of_lt_of_le gE.lt (Nat.le_of_eq g2.symm))
  rw [← g2] at A2 st2
  have f2_E_g := gE.ext E2
  have f2_F_g_parents := F_parents.ext E2
  have f2_F_g_movers := F_movers.ext E2
  have f2_F_g_processes := F_processes.ext E2
  have f2_F_g_recordsSteps := F_recordsSteps.ext E2
  have f2_F_g_successors := F_successors.ext E2
  have f2_F_g_facts := F_facts.ext E2
  have f2_F_g_size := F_size.ext E2
  have O2 := O0.ext E2
  obtain ⟨T3, h3, X3, e3, W3, st3⟩ := putF X2 hx hZ hown (host := "") (Or.inl (hw _ (List.mem_of_getElem? (i := 10) rfl))) Via.refl e2 f2_F_g_parents f2_E_g (Or.inl (hw _ (List.mem_of_getElem? (i := 11) rfl))) (hw _ (List.mem_of_getElem? (i := 1) rfl)) (ty := (.array .int)) (by decide) rfl rfl (g := (mkF m 10 #[.val (.ref g), .val (.int n), .val (.int (1 : Int32))] [(.ref P), (.ref g)])) rfl rfl (hb hby own_d1_10)
  have f3_E_g := f2_E_g.wr W3
  have f3_F_g_parents := f2_F_g_parents.same W3
  have f3_F_g_movers := f2_F_g_movers.other W3 (Or.inr (slot_ne (Or.inl (hw _ (List.mem_of_getElem? (i := 13) rfl))) (Or.inl (hw _ (List.mem_of_getElem? (i := 11) rfl))) (by decide) (t := (.array .int)) (t' := (.array .int)) (by decide) (by decide)))
  have f3_F_g_processes := f2_F_g_processes.other W3 (Or.inr (slot_ne (Or.inr (hw _ (List.mem_of_getElem? (i := 15) rfl))) (Or.inl (hw _ (List.mem_of_getElem? (i := 11) rfl))) (by decide) (t := .int) (t' := (.array .int)) (by decide) (by decide)))
  have f3_F_g_recordsSteps := f2_F_g_recordsSteps.other W3 (Or.inr (slot_ne (Or.inr (hw _ (List.mem_of_getElem? (i := 17) rfl))) (Or.inl (hw _ (List.mem_of_getElem? (i := 11) rfl))) (by decide) (t := .boolean) (t' := (.array .int)) (by decide) (by decide)))
  have f3_F_g_successors := f2_F_g_successors.other W3 (Or.inr (slot_ne (Or.inl (hw _ (List.mem_of_getElem? (i := 27) rfl))) (Or.inl (hw _ (List.mem_of_getElem? (i := 11) rfl))) (by decide) (t := (.array .int)) (t' := (.array .int)) (by decide) (by decide)))
  have f3_F_g_facts := f2_F_g_facts.other W3 (Or.inr (slot_ne (Or.inl (hw _ (List.mem_of_getElem? (i := 30) rfl))) (Or.inl (hw _ (List.mem_of_getElem? (i := 11) rfl))) (by decide) (t := (.array .byte)) (t' := (.array .int)) (by decide) (by decide)))
  have f3_F_g_size := f2_F_g_size.other W3 (Or.inr (slot_ne (Or.inl (hw _ (List.mem_of_getElem? (i := 37) rfl))) (Or.inl (hw _ (List.mem_of_getElem? (i := 11) rfl))) (by decide) (t := .int) (t' := (.array .int)) (by decide) (by decide)))
  have f3_A_P := A2.other W3 (Ne.symm ne_g_P)
  have O3 := O2.wr W3 ge_g
  have N3 := Fr.snoc X3 N0 ge_g
  obtain ⟨T4, h4, k4, X4, e4, E4, A4, st4⟩ := newP X3 hx hZ (hw _ (List.mem_of_getElem? (i := 9) rfl)) e3 (g := (mkF m 17 #[.val (.ref g), .val (.int n), .val (.int (1 : Int32))] [(.int (1024 : Int32)), (.ref g)])) rfl (hb hby own_d1_17) rfl (by decide) (cap := 1024) (by decide) (by decide) (by decide) (by decide)
  obtain ⟨M, g4⟩ : ∃ z, z = h3.size := ⟨_, rfl⟩
  have g_M : n0 ≤ M := Nat.le_trans (Nat.le_trans (Nat.le_of_eq O3.1.symm) O3.2.1) (Nat.le_of_eq g4.symm)
  have ne_g_M : g ≠ M := Nat.ne_of_lt (Nat.lt_of_lt_of_le f3_E_g.lt (Nat.le_of_eq g4.symm))
  have ne_P_M : P ≠ M := Nat.ne_of_lt (Nat.lt_of_lt_of_le f3_A_P.lt (Nat.le_of_eq g4.symm))
  rw [← g4] at A4 st4
  have f4_E_g := f3_E_g.ext E4
  have f4_F_g_parents := f3_F_g_parents.ext E4
  have f4_F_g_movers := f3_F_g_movers.ext E4
  have f4_F_g_processes := f3_F_g_processes.ext E4
  have f4_F_g_recordsSteps := f3_F_g_recordsSteps.ext E4
  have f4_F_g_successors := f3_F_g_successors.ext E4
  have f4_F_g_facts := f3_F_g_facts.ext E4
  have f4_F_g_size := f3_F_g_size.ext E4
  have f4_A_P := f3_A_P.ext E4
  have O4 := O3.ext E4
  obtain ⟨T5, h5, X5, e5, W5, st5⟩ := putF X4 hx hZ hown (host := "") (Or.inl (hw _ (List.mem_of_getElem? (i := 12) rfl))) Via.refl e4 f4_F_g_movers f4_E_g (Or.inl (hw _ (List.mem_of_getElem? (i := 13) rfl))) (hw _ (List.mem_of_getElem? (i := 1) rfl)) (ty := (.array .int)) (by decide) rfl rfl (g := (mkF m 19 #[.val (.ref g), .val (.int n), .val (.int (1 : Int32))] [(.ref M), (.ref g)])) rfl rfl (hb hby own_d1_19)
  have f5_E_g := f4_E_g.wr W5
  have f5_F_g_parents := f4_F_g_parents.other W5 (Or.inr (slot_ne (Or.inl (hw _ (List.mem_of_getElem? (i := 11) rfl))) (Or.inl (hw _ (List.mem_of_getElem? (i := 13) rfl))) (by decide) (t := (.array .int)) (t' := (.array .int)) (by decide) (by decide)))
  have f5_F_g_movers := f4_F_g_movers.same W5
  have f5_F_g_processes := f4_F_g_processes.other W5 (Or.inr (slot_ne (Or.inr (hw _ (List.mem_of_getElem? (i := 15) rfl))) (Or.inl (hw _ (List.mem_of_getElem? (i := 13) rfl))) (by decide) (t := .int) (t' := (.array .int)) (by decide) (by decide)))
  have f5_F_g_recordsSteps := f4_F_g_recordsSteps.other W5 (Or.inr (slot_ne (Or.inr (hw _ (List.mem_of_getElem? (i := 17) rfl))) (Or.inl (hw _ (List.mem_of_getElem? (i := 13) rfl))) (by decide) (t := .boolean) (t' := (.array .int)) (by decide) (by decide)))
  have f5_F_g_successors := f4_F_g_successors.other W5 (Or.inr (slot_ne (Or.inl (hw _ (List.mem_of_getElem? (i := 27) rfl))) (Or.inl (hw _ (List.mem_of_getElem? (i := 13) rfl))) (by decide) (t := (.array .int)) (t' := (.array .int)) (by decide) (by decide)))
  have f5_F_g_facts := f4_F_g_facts.other W5 (Or.inr (slot_ne (Or.inl (hw _ (List.mem_of_getElem? (i := 30) rfl))) (Or.inl (hw _ (List.mem_of_getElem? (i := 13) rfl))) (by decide) (t := (.array .byte)) (t' := (.array .int)) (by decide) (by decide)))
  have f5_F_g_size := f4_F_g_size.other W5 (Or.inr (slot_ne (Or.inl (hw _ (List.mem_of_getElem? (i := 37) rfl))) (Or.inl (hw _ (List.mem_of_getElem? (i := 13) rfl))) (by decide) (t := .int) (t' := (.array .int)) (by decide) (by decide)))
  have f5_A_P := f4_A_P.other W5 (Ne.symm ne_g_P)
  have f5_A_M := A4.other W5 (Ne.symm ne_g_M)
  have O5 := O4.wr W5 ge_g
  have N5 := Fr.snoc X5 N3 ge_g
  obtain ⟨T6, h6, X6, e6, W6, st6⟩ := putF X5 hx hZ hown (host := "") (Or.inl (hw _ (List.mem_of_getElem? (i := 14) rfl))) Via.refl e5 f5_F_g_processes f5_E_g (Or.inr ⟨(hw _ (List.mem_of_getElem? (i := 15) rfl)), rfl, hnm⟩) (hw _ (List.mem_of_getElem? (i := 1) rfl)) (ty := .int) (by decide) rfl rfl (g := (mkF m 24 #[.val (.ref g), .val (.int n), .val (.int (1 : Int32))] [(.int n), (.ref g)])) rfl rfl (hb hby own_d1_24)
  have f6_E_g := f5_E_g.wr W6
  have f6_F_g_parents := f5_F_g_parents.other W6 (Or.inr (slot_ne (Or.inl (hw _ (List.mem_of_getElem? (i := 11) rfl))) (Or.inr (hw _ (List.mem_of_getElem? (i := 15) rfl))) (by decide) (t := (.array .int)) (t' := .int) (by decide) (by decide)))
  have f6_F_g_movers := f5_F_g_movers.other W6 (Or.inr (slot_ne (Or.inl (hw _ (List.mem_of_getElem? (i := 13) rfl))) (Or.inr (hw _ (List.mem_of_getElem? (i := 15) rfl))) (by decide) (t := (.array .int)) (t' := .int) (by decide) (by decide)))
  have f6_F_g_processes := f5_F_g_processes.same W6
  have f6_F_g_recordsSteps := f5_F_g_recordsSteps.other W6 (Or.inr (slot_ne (Or.inr (hw _ (List.mem_of_getElem? (i := 17) rfl))) (Or.inr (hw _ (List.mem_of_getElem? (i := 15) rfl))) (by decide) (t := .boolean) (t' := .int) (by decide) (by decide)))
  have f6_F_g_successors := f5_F_g_successors.other W6 (Or.inr (slot_ne (Or.inl (hw _ (List.mem_of_getElem? (i := 27) rfl))) (Or.inr (hw _ (List.mem_of_getElem? (i := 15) rfl))) (by decide) (t := (.array .int)) (t' := .int) (by decide) (by decide)))
  have f6_F_g_facts := f5_F_g_facts.other W6 (Or.inr (slot_ne (Or.inl (hw _ (List.mem_of_getElem? (i := 30) rfl))) (Or.inr (hw _ (List.mem_of_getElem? (i := 15) rfl))) (by decide) (t := (.array .byte)) (t' := .int) (by decide) (by decide)))
  have f6_F_g_size := f5_F_g_size.other W6 (Or.inr (slot_ne (Or.inl (hw _ (List.mem_of_getElem? (i := 37) rfl))) (Or.inr (hw _ (List.mem_of_getElem? (i := 15) rfl))) (by decide) (t := .int) (t' := .int) (by decide) (by decide)))
  have f6_A_P := f5_A_P.other W6 (Ne.symm ne_g_P)
  have f6_A_M := f5_A_M.other W6 (Ne.symm ne_g_M)
  have O6 := O5.wr W6 ge_g
  have N6 := Fr.snoc X6 N5 ge_g
  obtain ⟨T7, h7, X7, e7, W7, st7⟩ := putFN X6 hx hZ hown (hw _ (List.mem_of_getElem? (i := 16) rfl)) Via.refl e6 f6_F_g_recordsSteps f6_E_g (Or.inr ⟨(hw _ (List.mem_of_getElem? (i := 17) rfl)), rfl, hnm⟩) (hw _ (List.mem_of_getElem? (i := 1) rfl)) (ty := .boolean) (v' := (.int (1 : Int32))) (by decide) rfl rfl (g := (mkF m 29 #[.val (.ref g), .val (.int n), .val (.int (1 : Int32))] [(.int (1 : Int32)), (.ref g)])) rfl rfl (hb hby own_d1_29)
  have f7_E_g := f6_E_g.wr W7
  have f7_F_g_parents := f6_F_g_parents.other W7 (Or.inr (slot_ne (Or.inl (hw _ (List.mem_of_getElem? (i := 11) rfl))) (Or.inr (hw _ (List.mem_of_getElem? (i := 17) rfl))) (by decide) (t := (.array .int)) (t' := .boolean) (by decide) (by decide)))
  have f7_F_g_movers := f6_F_g_movers.other W7 (Or.inr (slot_ne (Or.inl (hw _ (List.mem_of_getElem? (i := 13) rfl))) (Or.inr (hw _ (List.mem_of_getElem? (i := 17) rfl))) (by decide) (t := (.array .int)) (t' := .boolean) (by decide) (by decide)))
  have f7_F_g_processes := f6_F_g_processes.other W7 (Or.inr (slot_ne (Or.inr (hw _ (List.mem_of_getElem? (i := 15) rfl))) (Or.inr (hw _ (List.mem_of_getElem? (i := 17) rfl))) (by decide) (t := .int) (t' := .boolean) (by decide) (by decide)))
  have f7_F_g_recordsSteps := f6_F_g_recordsSteps.same W7
  have f7_F_g_successors := f6_F_g_successors.other W7 (Or.inr (slot_ne (Or.inl (hw _ (List.mem_of_getElem? (i := 27) rfl))) (Or.inr (hw _ (List.mem_of_getElem? (i := 17) rfl))) (by decide) (t := (.array .int)) (t' := .boolean) (by decide) (by decide)))
  have f7_F_g_facts := f6_F_g_facts.other W7 (Or.inr (slot_ne (Or.inl (hw _ (List.mem_of_getElem? (i := 30) rfl))) (Or.inr (hw _ (List.mem_of_getElem? (i := 17) rfl))) (by decide) (t := (.array .byte)) (t' := .boolean) (by decide) (by decide)))
  have f7_F_g_size := f6_F_g_size.other W7 (Or.inr (slot_ne (Or.inl (hw _ (List.mem_of_getElem? (i := 37) rfl))) (Or.inr (hw _ (List.mem_of_getElem? (i := 17) rfl))) (by decide) (t := .int) (t' := .boolean) (by decide) (by decide)))
  have f7_A_P := f6_A_P.other W7 (Ne.symm ne_g_P)
  have f7_A_M := f6_A_M.other W7 (Ne.symm ne_g_M)
  have O7 := O6.wr W7 ge_g
  have N7 := Fr.snoc X7 N6 ge_g
  obtain ⟨T8, X8, e8, st8⟩ := getF X7 hx hZ hown (host := "") (Or.inl (hw _ (List.mem_of_getElem? (i := 10) rfl))) Via.refl e7 f7_F_g_parents (g := (mkF m 39 #[.val (.ref g), .val (.int n), .val (.int (1 : Int32))] [(.ref g), (.ref g), (.ref g)])) rfl rfl (hb hby own_d1_39)
  obtain ⟨cq9, q9, q9'⟩ := f7_E_g.cell
  obtain ⟨_, _, ⟨T9, L9, k9, n9⟩, -, X9, ⟨Lc9, hQ9, l9, y9, z9⟩, st9⟩ := X8.privateBack hx (y := (⟨"com/example/doorway/doorway/checker/StateGraph", "slots", "(I)I"⟩ : MethodName)) hown (mvT hZ (hw _ (List.mem_of_getElem? (i := 18) rfl))) (mvT hZ (hw _ (List.mem_of_getElem? (i := 19) rfl))) (own_selP (args := _) (n := "add") (d := "(II)V") (mvT hZ (hw _ (List.mem_of_getElem? (i := 34) rfl))) (mvT hZ (hw _ (List.mem_of_getElem? (i := 32) rfl))) (mvT hZ (hw _ (List.mem_of_getElem? (i := 19) rfl))) (mvP hZ (hw _ (List.mem_of_getElem? (i := 20) rfl))) (by decide)) (Cond.privateMethod_at (mvP hZ (hw _ (List.mem_of_getElem? (i := 20) rfl)) (args := #[]))) (mvT hZ (hw _ (List.mem_of_getElem? (i := 21) rfl))) (by decide) (backOf (W := 1) (own_slots l Z a0 hw [] g (1024 : Int32) n h7 n0 O7 f7_F_g_processes (own_sl hfour)) hZ (hw _ (List.mem_of_getElem? (i := 21) rfl)) (hw _ (List.mem_of_getElem? (i := 2) rfl)) (by decide) (by decide)) (g := (mkF m 43 #[.val (.ref g), .val (.int n), .val (.int (1 : Int32))] [(.int (1024 : Int32)), (.ref g), (.ref g)])) rfl (by rw [hml]; rfl) (Steps.refl _) (a := g) (by rw [e8]; exact q9) q9' (argsL := [(.int (1024 : Int32))]) (rest := [(.ref g)]) (lenOf own_pd1 rfl) rfl (by show 2 * 0 + _ ≤ _; exact Nat.le_of_eq rfl) (hb hby own_d1_43) (fun _ _ => ⟨rfl, e8, (by decide : 2 + 0 ≤ _), (by decide : 2048 + 0 ≤ _)⟩)
  dsimp only [Pt.U, Pt.locs, Pt.cells, Pt.slots] at X9 l9 y9 z9 st9 hQ9
  subst l9 y9 z9
  obtain ⟨rfl, rfl, e9⟩ := hQ9
  try rw [List.append_nil] at X9
  obtain ⟨mm, h_mm⟩ : ∃ z : Int32, z = ((1024 : Int32).toInt64 * n.toInt64).toInt32 := ⟨_, rfl⟩
  have hm2 := own_sl2 hfour h_mm
  obtain ⟨T10, h10, k10, X10, e10, E10, A10, st10⟩ := newP X9 hx hZ (hw _ (List.mem_of_getElem? (i := 9) rfl)) e9 (g := (mkF m 46 #[.val (.ref g), .val (.int n), .val (.int (1 : Int32))] [(.int mm), (.ref g)])) rfl (hb hby own_d1_46) rfl hm2.1 (cap := 4096) hm2.2.1 (by decide) (by decide) (by decide)
  obtain ⟨S, g10⟩ : ∃ z, z = h7.size := ⟨_, rfl⟩
  have g_S : n0 ≤ S := Nat.le_trans (Nat.le_trans (Nat.le_of_eq O7.1.symm) O7.2.1) (Nat.le_of_eq g10.symm)
  have ne_g_S : g ≠ S := Nat.ne_of_lt (Nat.lt_of_lt_of_le f7_E_g.lt (Nat.le_of_eq g10.symm))
  have ne_P_S : P ≠ S := Nat.ne_of_lt (Nat.lt_of_lt_of_le f7_A_P.lt (Nat.le_of_eq g10.symm))
  have ne_M_S : M ≠ S := Nat.ne_of_lt (Nat.lt_of_lt_of_le f7_A_M.lt (Nat.le_of_eq g10.symm))
  rw [← g10] at A10 st10
  have f10_E_g := f7_E_g.ext E10
  have f10_F_g_parents := f7_F_g_parents.ext E10
  have f10_F_g_movers := f7_F_g_movers.ext E10
  have f10_F_g_processes := f7_F_g_processes.ext E10
  have f10_F_g_recordsSteps := f7_F_g_recordsSteps.ext E10
  have f10_F_g_successors := f7_F_g_successors.ext E10
  have f10_F_g_facts := f7_F_g_facts.ext E10
  have f10_F_g_size := f7_F_g_size.ext E10
  have f10_A_P := f7_A_P.ext E10
  have f10_A_M := f7_A_M.ext E10
  have O10 := O7.ext E10
  obtain ⟨T11, h11, X11, e11, W11, st11⟩ := putF X10 hx hZ hown (host := "") (Or.inl (hw _ (List.mem_of_getElem? (i := 26) rfl))) Via.refl e10 f10_F_g_successors f10_E_g (Or.inl (hw _ (List.mem_of_getElem? (i := 27) rfl))) (hw _ (List.mem_of_getElem? (i := 1) rfl)) (ty := (.array .int)) (by decide) rfl rfl (g := (mkF m 48 #[.val (.ref g), .val (.int n), .val (.int (1 : Int32))] [(.ref S), (.ref g)])) rfl rfl (hb hby own_d1_48)
  have f11_E_g := f10_E_g.wr W11
  have f11_F_g_parents := f10_F_g_parents.other W11 (Or.inr (slot_ne (Or.inl (hw _ (List.mem_of_getElem? (i := 11) rfl))) (Or.inl (hw _ (List.mem_of_getElem? (i := 27) rfl))) (by decide) (t := (.array .int)) (t' := (.array .int)) (by decide) (by decide)))
  have f11_F_g_movers := f10_F_g_movers.other W11 (Or.inr (slot_ne (Or.inl (hw _ (List.mem_of_getElem? (i := 13) rfl))) (Or.inl (hw _ (List.mem_of_getElem? (i := 27) rfl))) (by decide) (t := (.array .int)) (t' := (.array .int)) (by decide) (by decide)))
  have f11_F_g_processes := f10_F_g_processes.other W11 (Or.inr (slot_ne (Or.inr (hw _ (List.mem_of_getElem? (i := 15) rfl))) (Or.inl (hw _ (List.mem_of_getElem? (i := 27) rfl))) (by decide) (t := .int) (t' := (.array .int)) (by decide) (by decide)))
  have f11_F_g_recordsSteps := f10_F_g_recordsSteps.other W11 (Or.inr (slot_ne (Or.inr (hw _ (List.mem_of_getElem? (i := 17) rfl))) (Or.inl (hw _ (List.mem_of_getElem? (i := 27) rfl))) (by decide) (t := .boolean) (t' := (.array .int)) (by decide) (by decide)))
  have f11_F_g_successors := f10_F_g_successors.same W11
  have f11_F_g_facts := f10_F_g_facts.other W11 (Or.inr (slot_ne (Or.inl (hw _ (List.mem_of_getElem? (i := 30) rfl))) (Or.inl (hw _ (List.mem_of_getElem? (i := 27) rfl))) (by decide) (t := (.array .byte)) (t' := (.array .int)) (by decide) (by decide)))
  have f11_F_g_size := f10_F_g_size.other W11 (Or.inr (slot_ne (Or.inl (hw _ (List.mem_of_getElem? (i := 37) rfl))) (Or.inl (hw _ (List.mem_of_getElem? (i := 27) rfl))) (by decide) (t := .int) (t' := (.array .int)) (by decide) (by decide)))
  have f11_A_P := f10_A_P.other W11 (Ne.symm ne_g_P)
  have f11_A_M := f10_A_M.other W11 (Ne.symm ne_g_M)
  have f11_A_S := A10.other W11 (Ne.symm ne_g_S)
  have O11 := O10.wr W11 ge_g
  have N11 := Fr.snoc X11 N7 ge_g
  obtain ⟨T12, X12, e12, st12⟩ := getF X11 hx hZ hown (host := "") (Or.inl (hw _ (List.mem_of_getElem? (i := 26) rfl))) Via.refl e11 f11_F_g_successors (g := (mkF m 53 #[.val (.ref g), .val (.int n), .val (.int (1 : Int32))] [(.ref g), (.ref g)])) rfl rfl (hb hby own_d1_53)
  obtain ⟨T13, h13, k13, X13, e13, E13, A13, st13⟩ := newP X12 hx hZ (hw _ (List.mem_of_getElem? (i := 28) rfl)) e12 (g := (mkF m 57 #[.val (.ref g), .val (.int n), .val (.int (1 : Int32))] [(.int mm), (.ref g)])) rfl (hb hby own_d1_57) rfl hm2.1 (cap := 4096) hm2.2.1 (by decide) (by decide) (by decide)
  obtain ⟨F, g13⟩ : ∃ z, z = h11.size := ⟨_, rfl⟩
  have g_F : n0 ≤ F := Nat.le_trans (Nat.le_trans (Nat.le_of_eq O11.1.symm) O11.2.1) (Nat.le_of_eq g13.symm)
  have ne_g_F : g ≠ F := Nat.ne_of_lt (Nat.lt_of_lt_of_le f11_E_g.lt (Nat.le_of_eq g13.symm))
  have ne_P_F : P ≠ F := Nat.ne_of_lt (Nat.lt_of_lt_of_le f11_A_P.lt (Nat.le_of_eq g13.symm))
  have ne_M_F : M ≠ F := Nat.ne_of_lt (Nat.lt_of_lt_of_le f11_A_M.lt (Nat.le_of_eq g13.symm))
  have ne_S_F : S ≠ F := Nat.ne_of_lt (Nat.lt_of_lt_of_le f11_A_S.lt (Nat.le_of_eq g13.symm))
  rw [← g13] at A13 st13
  have f13_E_g := f11_E_g.ext E13
  have f13_F_g_parents := f11_F_g_parents.ext E13
  have f13_F_g_movers := f11_F_g_movers.ext E13
  have f13_F_g_processes := f11_F_g_processes.ext E13
  have f13_F_g_recordsSteps := f11_F_g_recordsSteps.ext E13
  have f13_F_g_successors := f11_F_g_successors.ext E13
  have f13_F_g_facts := f11_F_g_facts.ext E13
  have f13_F_g_size := f11_F_g_size.ext E13
  have f13_A_P := f11_A_P.ext E13
  have f13_A_M := f11_A_M.ext E13
  have f13_A_S := f11_A_S.ext E13
  have O13 := O11.ext E13
  obtain ⟨T14, h14, X14, e14, W14, st14⟩ := putF X13 hx hZ hown (host := "") (Or.inl (hw _ (List.mem_of_getElem? (i := 29) rfl))) Via.refl e13 f13_F_g_facts f13_E_g (Or.inl (hw _ (List.mem_of_getElem? (i := 30) rfl))) (hw _ (List.mem_of_getElem? (i := 1) rfl)) (ty := (.array .byte)) (by decide) rfl rfl (g := (mkF m 59 #[.val (.ref g), .val (.int n), .val (.int (1 : Int32))] [(.ref F), (.ref g)])) rfl rfl (hb hby own_d1_59)
  have f14_E_g := f13_E_g.wr W14
  have f14_F_g_parents := f13_F_g_parents.other W14 (Or.inr (slot_ne (Or.inl (hw _ (List.mem_of_getElem? (i := 11) rfl))) (Or.inl (hw _ (List.mem_of_getElem? (i := 30) rfl))) (by decide) (t := (.array .int)) (t' := (.array .byte)) (by decide) (by decide)))
  have f14_F_g_movers := f13_F_g_movers.other W14 (Or.inr (slot_ne (Or.inl (hw _ (List.mem_of_getElem? (i := 13) rfl))) (Or.inl (hw _ (List.mem_of_getElem? (i := 30) rfl))) (by decide) (t := (.array .int)) (t' := (.array .byte)) (by decide) (by decide)))
  have f14_F_g_processes := f13_F_g_processes.other W14 (Or.inr (slot_ne (Or.inr (hw _ (List.mem_of_getElem? (i := 15) rfl))) (Or.inl (hw _ (List.mem_of_getElem? (i := 30) rfl))) (by decide) (t := .int) (t' := (.array .byte)) (by decide) (by decide)))
  have f14_F_g_recordsSteps := f13_F_g_recordsSteps.other W14 (Or.inr (slot_ne (Or.inr (hw _ (List.mem_of_getElem? (i := 17) rfl))) (Or.inl (hw _ (List.mem_of_getElem? (i := 30) rfl))) (by decide) (t := .boolean) (t' := (.array .byte)) (by decide) (by decide)))
  have f14_F_g_successors := f13_F_g_successors.other W14 (Or.inr (slot_ne (Or.inl (hw _ (List.mem_of_getElem? (i := 27) rfl))) (Or.inl (hw _ (List.mem_of_getElem? (i := 30) rfl))) (by decide) (t := (.array .int)) (t' := (.array .byte)) (by decide) (by decide)))
  have f14_F_g_facts := f13_F_g_facts.same W14
  have f14_F_g_size := f13_F_g_size.other W14 (Or.inr (slot_ne (Or.inl (hw _ (List.mem_of_getElem? (i := 37) rfl))) (Or.inl (hw _ (List.mem_of_getElem? (i := 30) rfl))) (by decide) (t := .int) (t' := (.array .byte)) (by decide) (by decide)))
  have f14_A_P := f13_A_P.other W14 (Ne.symm ne_g_P)
  have f14_A_M := f13_A_M.other W14 (Ne.symm ne_g_M)
  have f14_A_S := f13_A_S.other W14 (Ne.symm ne_g_S)
  have f14_A_F := A13.other W14 (Ne.symm ne_g_F)
  have O14 := O13.wr W14 ge_g
  have N14 := Fr.snoc X14 N11 ge_g
  obtain ⟨fs, hr, hrun, hended, hW, hsame⟩ := X14.leave (v := none) (fun _ => rfl)
  refine ⟨_, _, pre0 _ ?_, hrun, hended, _, _, rfl, ?_, ⟨_, rfl⟩, hW, hsame.mono (by decide) (by decide)⟩
  · show Steps p.tables e below (s₁.setTop (mkF m 0 #[.val (.ref g), .val (.int n), .val (.int (1 : Int32))] [])) _
    refine XS.aloadN X0.here hx rfl (hb hby own_d1_0) rfl rfl ?_
    show Steps p.tables e below (s₁.setTop (mkF m 1 #[.val (.ref g), .val (.int n), .val (.int (1 : Int32))] [(.ref g)])) _
    refine st1 _ ?_
    show Steps p.tables e below (T1.setTop (mkF m 4 #[.val (.ref g), .val (.int n), .val (.int (1 : Int32))] [])) _
    refine XS.aloadN X1.here hx rfl (hb hby own_d1_4) rfl rfl ?_
    show Steps p.tables e below (T1.setTop (mkF m 5 #[.val (.ref g), .val (.int n), .val (.int (1 : Int32))] [(.ref g)])) _
    refine XS.sipush X1.here hx rfl (hb hby own_d1_5) ?_
    show Steps p.tables e below (T1.setTop (mkF m 8 #[.val (.ref g), .val (.int n), .val (.int (1 : Int32))] [(.int (1024 : Int32)), (.ref g)])) _
    refine st2 _ ?_
    show Steps p.tables e below (T2.setTop (mkF m 10 #[.val (.ref g), .val (.int n), .val (.int (1 : Int32))] [(.ref P), (.ref g)])) _
    refine st3 _ ?_
    show Steps p.tables e below (T3.setTop (mkF m 13 #[.val (.ref g), .val (.int n), .val (.int (1 : Int32))] [])) _
    refine XS.aloadN X3.here hx rfl (hb hby own_d1_13) rfl rfl ?_
    show Steps p.tables e below (T3.setTop (mkF m 14 #[.val (.ref g), .val (.int n), .val (.int (1 : Int32))] [(.ref g)])) _
    refine XS.sipush X3.here hx rfl (hb hby own_d1_14) ?_
    show Steps p.tables e below (T3.setTop (mkF m 17 #[.val (.ref g), .val (.int n), .val (.int (1 : Int32))] [(.int (1024 : Int32)), (.ref g)])) _
    refine st4 _ ?_
    show Steps p.tables e below (T4.setTop (mkF m 19 #[.val (.ref g), .val (.int n), .val (.int (1 : Int32))] [(.ref M), (.ref g)])) _
    refine st5 _ ?_
    show Steps p.tables e below (T5.setTop (mkF m 22 #[.val (.ref g), .val (.int n), .val (.int (1 : Int32))] [])) _
    refine XS.aloadN X5.here hx rfl (hb hby own_d1_22) rfl rfl ?_
    show Steps p.tables e below (T5.setTop (mkF m 23 #[.val (.ref g), .val (.int n), .val (.int (1 : Int32))] [(.ref g)])) _
    refine XS.iloadN X5.here hx rfl (hb hby own_d1_23) rfl ?_
    show Steps p.tables e below (T5.setTop (mkF m 24 #[.val (.ref g), .val (.int n), .val (.int (1 : Int32))] [(.int n), (.ref g)])) _
    refine st6 _ ?_
    show Steps p.tables e below (T6.setTop (mkF m 27 #[.val (.ref g), .val (.int n), .val (.int (1 : Int32))] [])) _
    refine XS.aloadN X6.here hx rfl (hb hby own_d1_27) rfl rfl ?_
    show Steps p.tables e below (T6.setTop (mkF m 28 #[.val (.ref g), .val (.int n), .val (.int (1 : Int32))] [(.ref g)])) _
    refine XS.iloadN X6.here hx rfl (hb hby own_d1_28) rfl ?_
    show Steps p.tables e below (T6.setTop (mkF m 29 #[.val (.ref g), .val (.int n), .val (.int (1 : Int32))] [(.int (1 : Int32)), (.ref g)])) _
    refine st7 _ ?_
    show Steps p.tables e below (T7.setTop (mkF m 32 #[.val (.ref g), .val (.int n), .val (.int (1 : Int32))] [])) _
    refine XS.iloadN X7.here hx rfl (hb hby own_d1_32) rfl ?_
    show Steps p.tables e below (T7.setTop (mkF m 33 #[.val (.ref g), .val (.int n), .val (.int (1 : Int32))] [(.int (1 : Int32))])) _
    refine XS.ifNo X7.here hx rfl (hb hby own_d1_33) rfl ((if0 _ _).trans (feq (by decide : ¬ ((1 : Int32) = (0 : Int32)))).1) ?_
    show Steps p.tables e below (T7.setTop (mkF m 36 #[.val (.ref g), .val (.int n), .val (.int (1 : Int32))] [])) _
    refine XS.aloadN X7.here hx rfl (hb hby own_d1_36) rfl rfl ?_
    show Steps p.tables e below (T7.setTop (mkF m 37 #[.val (.ref g), .val (.int n), .val (.int (1 : Int32))] [(.ref g)])) _
    refine XS.aloadN X7.here hx rfl (hb hby own_d1_37) rfl rfl ?_
    show Steps p.tables e below (T7.setTop (mkF m 38 #[.val (.ref g), .val (.int n), .val (.int (1 : Int32))] [(.ref g), (.ref g)])) _
    refine XS.aloadN X7.here hx rfl (hb hby own_d1_38) rfl rfl ?_
    show Steps p.tables e below (T7.setTop (mkF m 39 #[.val (.ref g), .val (.int n), .val (.int (1 : Int32))] [(.ref g), (.ref g), (.ref g)])) _
    refine st8 _ ?_
    show Steps p.tables e below (T8.setTop (mkF m 42 #[.val (.ref g), .val (.int n), .val (.int (1 : Int32))] [(.ref P), (.ref g), (.ref g)])) _
    refine X8.arraylength hx (by rw [e8]; exact f7_A_P.1) (State.isArrayOf_alike hZ.alike f7_A_P.2.1) (g := (mkF m 42 #[.val (.ref g), .val (.int n), .val (.int (1 : Int32))] [(.ref P), (.ref g), (.ref g)])) rfl rfl (hb hby own_d1_42) _ ?_
    rw [len_of (sz_new _ _ _) (by decide)]
    show Steps p.tables e below (T8.setTop (mkF m 43 #[.val (.ref g), .val (.int n), .val (.int (1 : Int32))] [(.int (1024 : Int32)), (.ref g), (.ref g)])) _
    refine st9.trans ?_
    show Steps p.tables e below (T9.setTop (mkF m 46 #[.val (.ref g), .val (.int n), .val (.int (1 : Int32))] [(.int ((1024 : Int32).toInt64 * n.toInt64).toInt32), (.ref g)])) _
    rw [← h_mm]
    show Steps p.tables e below (T9.setTop (mkF m 46 #[.val (.ref g), .val (.int n), .val (.int (1 : Int32))] [(.int mm), (.ref g)])) _
    refine st10 _ ?_
    show Steps p.tables e below (T10.setTop (mkF m 48 #[.val (.ref g), .val (.int n), .val (.int (1 : Int32))] [(.ref S), (.ref g)])) _
    refine st11 _ ?_
    show Steps p.tables e below (T11.setTop (mkF m 51 #[.val (.ref g), .val (.int n), .val (.int (1 : Int32))] [])) _
    refine XS.aloadN X11.here hx rfl (hb hby own_d1_51) rfl rfl ?_
    show Steps p.tables e below (T11.setTop (mkF m 52 #[.val (.ref g), .val (.int n), .val (.int (1 : Int32))] [(.ref g)])) _
    refine XS.aloadN X11.here hx rfl (hb hby own_d1_52) rfl rfl ?_
    show Steps p.tables e below (T11.setTop (mkF m 53 #[.val (.ref g), .val (.int n), .val (.int (1 : Int32))] [(.ref g), (.ref g)])) _
    refine st12 _ ?_
    show Steps p.tables e below (T12.setTop (mkF m 56 #[.val (.ref g), .val (.int n), .val (.int (1 : Int32))] [(.ref S), (.ref g)])) _
    refine X12.arraylength hx (by rw [e12]; exact f11_A_S.1) (State.isArrayOf_alike hZ.alike f11_A_S.2.1) (g := (mkF m 56 #[.val (.ref g), .val (.int n), .val (.int (1 : Int32))] [(.ref S), (.ref g)])) rfl rfl (hb hby own_d1_56) _ ?_
    rw [len_of (sz_new _ _ _) hm2.1]
    show Steps p.tables e below (T12.setTop (mkF m 57 #[.val (.ref g), .val (.int n), .val (.int (1 : Int32))] [(.int mm), (.ref g)])) _
    refine st13 _ ?_
    show Steps p.tables e below (T13.setTop (mkF m 59 #[.val (.ref g), .val (.int n), .val (.int (1 : Int32))] [(.ref F), (.ref g)])) _
    refine st14 _ ?_
    show Steps p.tables e below (T14.setTop (mkF m 62 #[.val (.ref g), .val (.int n), .val (.int (1 : Int32))] [])) _
    exact X14.returnOut hx Bd.returns (hb hby own_d1_62) hr
  · show own_Qi Z n0 g n _ T14.heap _
    rw [e14]
    exact ⟨rfl, N14, O14, P, M, S, F, f14_E_g, f14_F_g_processes, f14_F_g_size, f14_F_g_parents, f14_F_g_movers, f14_F_g_successors, f14_F_g_facts, ⟨_, f14_A_P, (sz_new _ _ _).trans (by decide)⟩, ⟨_, f14_A_M, (sz_new _ _ _).trans (by decide)⟩, ⟨_, f14_A_S, (sz_new _ _ _).trans hm2.2.2⟩, ⟨_, f14_A_F, (sz_new _ _ _).trans hm2.2.2, own_zero hm2.2.2⟩, ⟨ge_g, g_P, g_M, g_S, g_F⟩, ⟨ne_g_P, ne_g_M, ne_g_S, ne_g_F, ne_P_M, ne_P_S, ne_P_F, ne_M_S, ne_M_F, ne_S_F⟩⟩
theorem own_d5_0 : decode prog_46_method_5_code 0 = .ok (.aload_n 0, 1) := by decide +kernel
theorem own_d5_1 : decode prog_46_method_5_code 1 = .ok (.getfield 35, 3) := by decide +kernel
theorem own_d5_4 : decode prog_46_method_5_code 4 = .ok (.aload_n 0, 1) := by decide +kernel
theorem own_d5_5 : decode prog_46_method_5_code 5 = .ok (.getfield 7, 3) := by decide +kernel
theorem own_d5_8 : decode prog_46_method_5_code 8 = .ok (.arraylength, 1) := by decide +kernel
theorem own_d5_9 : decode prog_46_method_5_code 9 = .ok (.if_icmp .ne 73, 3) := by decide +kernel
theorem own_d5_82 : decode prog_46_method_5_code 82 = .ok (.aload_n 0, 1) := by decide +kernel
theorem own_d5_83 : decode prog_46_method_5_code 83 = .ok (.getfield 7, 3) := by decide +kernel
theorem own_d5_86 : decode prog_46_method_5_code 86 = .ok (.aload_n 0, 1) := by decide +kernel
theorem own_d5_87 : decode prog_46_method_5_code 87 = .ok (.getfield 35, 3) := by decide +kernel
theorem own_d5_90 : decode prog_46_method_5_code 90 = .ok (.iload_n 1, 1) := by decide +kernel
theorem own_d5_91 : decode prog_46_method_5_code 91 = .ok (.iastore, 1) := by decide +kernel
theorem own_d5_92 : decode prog_46_method_5_code 92 = .ok (.aload_n 0, 1) := by decide +kernel
theorem own_d5_93 : decode prog_46_method_5_code 93 = .ok (.getfield 13, 3) := by decide +kernel
theorem own_d5_96 : decode prog_46_method_5_code 96 = .ok (.aload_n 0, 1) := by decide +kernel
theorem own_d5_97 : decode prog_46_method_5_code 97 = .ok (.getfield 35, 3) := by decide +kernel
theorem own_d5_100 : decode prog_46_method_5_code 100 = .ok (.iload_n 2, 1) := by decide +kernel
theorem own_d5_101 : decode prog_46_method_5_code 101 = .ok (.iastore, 1) := by decide +kernel
theorem own_d5_102 : decode prog_46_method_5_code 102 = .ok (.aload_n 0, 1) := by decide +kernel
theorem own_d5_103 : decode prog_46_method_5_code 103 = .ok (.dup, 1) := by decide +kernel
theorem own_d5_104 : decode prog_46_method_5_code 104 = .ok (.getfield 35, 3) := by decide +kernel
theorem own_d5_107 : decode prog_46_method_5_code 107 = .ok (.iconst 1, 1) := by decide +kernel
theorem own_d5_108 : decode prog_46_method_5_code 108 = .ok (.iadd, 1) := by decide +kernel
theorem own_d5_109 : decode prog_46_method_5_code 109 = .ok (.putfield 35, 3) := by decide +kernel
theorem own_d5_112 : decode prog_46_method_5_code 112 = .ok (.return_, 1) := by decide +kernel
def own_Qa (Z : State) (n0 : Nat) (g P M S F : Addr) (n sz : Int32) (f : Nat → Int32) (v : Option Value) (h : Heap) (L : List Loc) : Prop := v = none ∧ Fr n0 L ∧ Old Z n0 h ∧ own_G Z h n0 g P M S F n (sz + (1 : Int32)) f
theorem own_ef5 (m : MethodId) (x0 : Addr) (x1 : Int32) (x2 : Int32) : entryFrame m #[(.ref x0), (.int x1), (.int x2)] 4 = mkF m 0 #[.val (.ref x0), .val (.int x1), .val (.int x2), .unset] [] := by first | (simp [entryFrame, mkF, argsToLocals, Value.category]; done) | rfl
set_option maxRecDepth 65536 in
set_option maxHeartbeats 40000000 in
theorem own_add (l : Launch) (Z : State) (a0 : Array Value) (hw : ∀ d ∈ tables_1, d.before a0 Z = true) (ws : List Jvm.Cond) (g P M S F : Addr) (n sz : Int32) (f : Nat → Int32) (p1 p2 : Int32) (h0 : Heap) (n0 : Nat) (O0 : Old Z n0 h0) (G : own_G Z h0 n0 g P M S F n sz f) (hsz : 0 ≤ sz.toInt ∧ sz.toNatClampNeg < 1024) (hne : ¬ (sz = (1024 : Int32))) :
    MetFree l (⟨"com/example/doorway/doorway/checker/StateGraph", "add", "(II)V"⟩ : MethodName) (head1 (Jvm.Cond.code (⟨"com/example/doorway/doorway/checker/StateGraph", "add", "(II)V"⟩ : MethodName) prog_46_method_5_code 4 none :: ws) ({ frames := 0, cells := 0, slots := 0, locals := 0 } : Room)) (fun aa_ U_ => aa_ = #[(.ref g), (.int p1), (.int p2)] ∧ Z.Warmed39 U_.vm ∧ U_.heap = h0) (fun _ _ _ _ _ => True) (fun _ U_ oo_ UU_ => ∃ vv_ LL_, oo_ = .returned vv_ ∧ own_Qa Z n0 g P M S F n sz f vv_ UU_.heap LL_ ∧ FrameEnd U_ oo_ UU_ LL_ ({ frames := 0, cells := 0, slots := 0, locals := 0 } : Room).cells ({ frames := 0, cells := 0, slots := 0, locals := 0 } : Room).slots) := by
  obtain ⟨gE, F_processes, F_size, F_parents, F_movers, F_successors, F_facts, ⟨cP, AP, zP⟩, ⟨cM, AM, zM⟩, ⟨cS, AS, zS⟩, ⟨cF, AF, zF, vF⟩, ⟨ge_g, ge_P, ge_M, ge_S, ge_F⟩, ⟨ne_gP, ne_gM, ne_gS, ne_gF, ne_PM, ne_PS, ne_PF, ne_MS, ne_MF, ne_SF⟩⟩ := G
  refine MetFree.of_bodySF (plainFor_of_name own_pn1) hisR ?_
  intro p e s m args below meth c s₁ Bd hml0 hP hK
  obtain ⟨rfl, hZ, hh⟩ := hP
  have hx := Bd.exec
  have hby := Bd.bytes
  have hml : c.maxLocals = 4 := hml0
  have hown : s.vm.findClass "com/example/doorway/doorway/checker/StateGraph" = some m.cls := findClass_of_methodNamed Bd.named
  have hnm := (name_of_methodNamed Bd.named Bd.method).1
  have X0 : Stand p l e ({ frames := 0, cells := 0, slots := 0, locals := 0 } : Room) s m #[(.ref g), (.int p1), (.int p2)] below meth c s₁ [] 0 0 := Stand.of_body Bd
  have e0 : s₁.heap = h0 := by rw [← hh, Bd.state]; rfl
  have N0 := Fr.nil n0
  have pre0 : ∀ t, Steps p.tables e below (s₁.setTop (mkF m 0 #[.val (.ref g), .val (.int p1), .val (.int p2), .unset] [])) t → Steps p.tables e below (s₁.setTop (entryFrame m #[(.ref g), (.int p1), (.int p2)] 4)) t := fun t k => castTop (own_ef5 m g p1 p2) k
  obtain ⟨T1, X1, e1, st1⟩ := getF X0 hx hZ hown (host := "") (Or.inl (hw _ (List.mem_of_getElem? (i := 36) rfl))) Via.refl e0 F_size (g := (mkF m 1 #[.val (.ref g), .val (.int p1), .val (.int p2), .unset] [(.ref g)])) rfl rfl (hb hby own_d5_1)
  obtain ⟨T2, X2, e2, st2⟩ := getF X1 hx hZ hown (host := "") (Or.inl (hw _ (List.mem_of_getElem? (i := 10) rfl))) Via.refl e1 F_parents (g := (mkF m 5 #[.val (.ref g), .val (.int p1), .val (.int p2), .unset] [(.ref g), (.int sz)])) rfl rfl (hb hby own_d5_5)
  obtain ⟨T3, X3, e3, st3⟩ := getF X2 hx hZ hown (host := "") (Or.inl (hw _ (List.mem_of_getElem? (i := 10) rfl))) Via.refl e2 F_parents (g := (mkF m 83 #[.val (.ref g), .val (.int p1), .val (.int p2), .unset] [(.ref g)])) rfl rfl (hb hby own_d5_83)
  obtain ⟨T4, X4, e4, st4⟩ := getF X3 hx hZ hown (host := "") (Or.inl (hw _ (List.mem_of_getElem? (i := 36) rfl))) Via.refl e3 F_size (g := (mkF m 87 #[.val (.ref g), .val (.int p1), .val (.int p2), .unset] [(.ref g), (.ref P)])) rfl rfl (hb hby own_d5_87)
  have hin5 : ¬ (sz < 0 ∨ cP.slots.size ≤ sz.toNatClampNeg) := own_inb zP hsz
  obtain ⟨T5, h5, X5, e5, W5, st5⟩ := stI X4 hx hZ e4 AP (j := sz) hin5 (g := (mkF m 91 #[.val (.ref g), .val (.int p1), .val (.int p2), .unset] [(.int p1), (.int sz), (.ref P)])) rfl rfl (hb hby own_d5_91)
  have f5_E_g := gE.wr W5
  have f5_F_g_processes := F_processes.other W5 (Or.inl ne_gP)
  have f5_F_g_size := F_size.other W5 (Or.inl ne_gP)
  have f5_F_g_parents := F_parents.other W5 (Or.inl ne_gP)
  have f5_F_g_movers := F_movers.other W5 (Or.inl ne_gP)
  have f5_F_g_successors := F_successors.other W5 (Or.inl ne_gP)
  have f5_F_g_facts := F_facts.other W5 (Or.inl ne_gP)
  have f5_A_P := AP.same W5
  have f5_A_M := AM.other W5 (Ne.symm ne_PM)
  have f5_A_S := AS.other W5 (Ne.symm ne_PS)
  have f5_A_F := AF.other W5 (Ne.symm ne_PF)
  have O5 := O0.wr W5 ge_P
  have N5 := Fr.snoc X5 N0 ge_P
  have zP5 := (sz_set cP sz.toNatClampNeg (.int p1)).trans zP
  obtain ⟨T6, X6, e6, st6⟩ := getF X5 hx hZ hown (host := "") (Or.inl (hw _ (List.mem_of_getElem? (i := 12) rfl))) Via.refl e5 f5_F_g_movers (g := (mkF m 93 #[.val (.ref g), .val (.int p1), .val (.int p2), .unset] [(.ref g)])) rfl rfl (hb hby own_d5_93)
  obtain ⟨T7, X7, e7, st7⟩ := getF X6 hx hZ hown (host := "") (Or.inl (hw _ (List.mem_of_getElem? (i := 36) rfl))) Via.refl e6 f5_F_g_size (g := (mkF m 97 #[.val (.ref g), .val (.int p1), .val (.int p2), .unset] [(.ref g), (.ref M)])) rfl rfl (hb hby own_d5_97)
  have hin8 : ¬ (sz < 0 ∨ cM.slots.size ≤ sz.toNatClampNeg) := own_inb zM hsz
  obtain ⟨T8, h8, X8, e8, W8, st8⟩ := stI X7 hx hZ e7 f5_A_M (j := sz) hin8 (g := (mkF m 101 #[.val (.ref g), .val (.int p1), .val (.int p2), .unset] [(.int p2), (.int sz), (.ref M)])) rfl rfl (hb hby own_d5_101)
  have f8_E_g := f5_E_g.wr W8
  have f8_F_g_processes := f5_F_g_processes.other W8 (Or.inl ne_gM)
  have f8_F_g_size := f5_F_g_size.other W8 (Or.inl ne_gM)
  have f8_F_g_parents := f5_F_g_parents.other W8 (Or.inl ne_gM)
  have f8_F_g_movers := f5_F_g_movers.other W8 (Or.inl ne_gM)
  have f8_F_g_successors := f5_F_g_successors.other W8 (Or.inl ne_gM)
  have f8_F_g_facts := f5_F_g_facts.other W8 (Or.inl ne_gM)
  have f8_A_P := f5_A_P.other W8 ne_PM
  have f8_A_M := f5_A_M.same W8
  have f8_A_S := f5_A_S.other W8 (Ne.symm ne_MS)
  have f8_A_F := f5_A_F.other W8 (Ne.symm ne_MF)
  have O8 := O5.wr W8 ge_M
  have N8 := Fr.snoc X8 N5 ge_M
  have zM8 := (sz_set cM sz.toNatClampNeg (.int p2)).trans zM
  obtain ⟨T9, X9, e9, st9⟩ := getF X8 hx hZ hown (host := "") (Or.inl (hw _ (List.mem_of_getElem? (i := 36) rfl))) Via.refl e8 f8_F_g_size (g := (mkF m 104 #[.val (.ref g), .val (.int p1), .val (.int p2), .unset] [(.ref g), (.ref g)])) rfl rfl (hb hby own_d5_104)
  obtain ⟨T10, h10, X10, e10, W10, st10⟩ := putF X9 hx hZ hown (host := "") (Or.inl (hw _ (List.mem_of_getElem? (i := 36) rfl))) Via.refl e9 f8_F_g_size f8_E_g (Or.inl (hw _ (List.mem_of_getElem? (i := 37) rfl))) (hw _ (List.mem_of_getElem? (i := 1) rfl)) (ty := .int) (by decide) rfl rfl (g := (mkF m 109 #[.val (.ref g), .val (.int p1), .val (.int p2), .unset] [(.int (sz + (1 : Int32))), (.ref g)])) rfl rfl (hb hby own_d5_109)
  have f10_E_g := f8_E_g.wr W10
  have f10_F_g_processes := f8_F_g_processes.other W10 (Or.inr (slot_ne (Or.inr (hw _ (List.mem_of_getElem? (i := 15) rfl))) (Or.inl (hw _ (List.mem_of_getElem? (i := 37) rfl))) (by decide) (t := .int) (t' := .int) (by decide) (by decide)))
  have f10_F_g_size := f8_F_g_size.same W10
  have f10_F_g_parents := f8_F_g_parents.other W10 (Or.inr (slot_ne (Or.inl (hw _ (List.mem_of_getElem? (i := 11) rfl))) (Or.inl (hw _ (List.mem_of_getElem? (i := 37) rfl))) (by decide) (t := (.array .int)) (t' := .int) (by decide) (by decide)))
  have f10_F_g_movers := f8_F_g_movers.other W10 (Or.inr (slot_ne (Or.inl (hw _ (List.mem_of_getElem? (i := 13) rfl))) (Or.inl (hw _ (List.mem_of_getElem? (i := 37) rfl))) (by decide) (t := (.array .int)) (t' := .int) (by decide) (by decide)))
  have f10_F_g_successors := f8_F_g_successors.other W10 (Or.inr (slot_ne (Or.inl (hw _ (List.mem_of_getElem? (i := 27) rfl))) (Or.inl (hw _ (List.mem_of_getElem? (i := 37) rfl))) (by decide) (t := (.array .int)) (t' := .int) (by decide) (by decide)))
  have f10_F_g_facts := f8_F_g_facts.other W10 (Or.inr (slot_ne (Or.inl (hw _ (List.mem_of_getElem? (i := 30) rfl))) (Or.inl (hw _ (List.mem_of_getElem? (i := 37) rfl))) (by decide) (t := (.array .byte)) (t' := .int) (by decide) (by decide)))
  have f10_A_P := f8_A_P.other W10 (Ne.symm ne_gP)
  have f10_A_M := f8_A_M.other W10 (Ne.symm ne_gM)
  have f10_A_S := f8_A_S.other W10 (Ne.symm ne_gS)
  have f10_A_F := f8_A_F.other W10 (Ne.symm ne_gF)
  have O10 := O8.wr W10 ge_g
  have N10 := Fr.snoc X10 N8 ge_g
  obtain ⟨fs, hr, hrun, hended, hW, hsame⟩ := X10.leave (v := none) (fun _ => rfl)
  refine ⟨_, _, pre0 _ ?_, hrun, hended, _, _, rfl, ?_, ⟨_, rfl⟩, hW, hsame.mono (by decide) (by decide)⟩
  · show Steps p.tables e below (s₁.setTop (mkF m 0 #[.val (.ref g), .val (.int p1), .val (.int p2), .unset] [])) _
    refine XS.aloadN X0.here hx rfl (hb hby own_d5_0) rfl rfl ?_
    show Steps p.tables e below (s₁.setTop (mkF m 1 #[.val (.ref g), .val (.int p1), .val (.int p2), .unset] [(.ref g)])) _
    refine st1 _ ?_
    show Steps p.tables e below (T1.setTop (mkF m 4 #[.val (.ref g), .val (.int p1), .val (.int p2), .unset] [(.int sz)])) _
    refine XS.aloadN X1.here hx rfl (hb hby own_d5_4) rfl rfl ?_
    show Steps p.tables e below (T1.setTop (mkF m 5 #[.val (.ref g), .val (.int p1), .val (.int p2), .unset] [(.ref g), (.int sz)])) _
    refine st2 _ ?_
    show Steps p.tables e below (T2.setTop (mkF m 8 #[.val (.ref g), .val (.int p1), .val (.int p2), .unset] [(.ref P), (.int sz)])) _
    refine X2.arraylength hx (by rw [e2]; exact AP.1) (State.isArrayOf_alike hZ.alike AP.2.1) (g := (mkF m 8 #[.val (.ref g), .val (.int p1), .val (.int p2), .unset] [(.ref P), (.int sz)])) rfl rfl (hb hby own_d5_8) _ ?_
    rw [len_of (z := (1024 : Int32)) (zP.trans (by decide)) (by decide)]
    show Steps p.tables e below (T2.setTop (mkF m 9 #[.val (.ref g), .val (.int p1), .val (.int p2), .unset] [(.int (1024 : Int32)), (.int sz)])) _
    refine XS.icmpYes X2.here hx rfl (pc0 := 9) (pc' := 82) rfl (hb hby own_d5_9) rfl (feq hne).2 (by decide) (by decide) ?_
    show Steps p.tables e below (T2.setTop (mkF m 82 #[.val (.ref g), .val (.int p1), .val (.int p2), .unset] [])) _
    refine XS.aloadN X2.here hx rfl (hb hby own_d5_82) rfl rfl ?_
    show Steps p.tables e below (T2.setTop (mkF m 83 #[.val (.ref g), .val (.int p1), .val (.int p2), .unset] [(.ref g)])) _
    refine st3 _ ?_
    show Steps p.tables e below (T3.setTop (mkF m 86 #[.val (.ref g), .val (.int p1), .val (.int p2), .unset] [(.ref P)])) _
    refine XS.aloadN X3.here hx rfl (hb hby own_d5_86) rfl rfl ?_
    show Steps p.tables e below (T3.setTop (mkF m 87 #[.val (.ref g), .val (.int p1), .val (.int p2), .unset] [(.ref g), (.ref P)])) _
    refine st4 _ ?_
    show Steps p.tables e below (T4.setTop (mkF m 90 #[.val (.ref g), .val (.int p1), .val (.int p2), .unset] [(.int sz), (.ref P)])) _
    refine XS.iloadN X4.here hx rfl (hb hby own_d5_90) rfl ?_
    show Steps p.tables e below (T4.setTop (mkF m 91 #[.val (.ref g), .val (.int p1), .val (.int p2), .unset] [(.int p1), (.int sz), (.ref P)])) _
    refine st5 _ ?_
    show Steps p.tables e below (T5.setTop (mkF m 92 #[.val (.ref g), .val (.int p1), .val (.int p2), .unset] [])) _
    refine XS.aloadN X5.here hx rfl (hb hby own_d5_92) rfl rfl ?_
    show Steps p.tables e below (T5.setTop (mkF m 93 #[.val (.ref g), .val (.int p1), .val (.int p2), .unset] [(.ref g)])) _
    refine st6 _ ?_
    show Steps p.tables e below (T6.setTop (mkF m 96 #[.val (.ref g), .val (.int p1), .val (.int p2), .unset] [(.ref M)])) _
    refine XS.aloadN X6.here hx rfl (hb hby own_d5_96) rfl rfl ?_
    show Steps p.tables e below (T6.setTop (mkF m 97 #[.val (.ref g), .val (.int p1), .val (.int p2), .unset] [(.ref g), (.ref M)])) _
    refine st7 _ ?_
    show Steps p.tables e below (T7.setTop (mkF m 100 #[.val (.ref g), .val (.int p1), .val (.int p2), .unset] [(.int sz), (.ref M)])) _
    refine XS.iloadN X7.here hx rfl (hb hby own_d5_100) rfl ?_
    show Steps p.tables e below (T7.setTop (mkF m 101 #[.val (.ref g), .val (.int p1), .val (.int p2), .unset] [(.int p2), (.int sz), (.ref M)])) _
    refine st8 _ ?_
    show Steps p.tables e below (T8.setTop (mkF m 102 #[.val (.ref g), .val (.int p1), .val (.int p2), .unset] [])) _
    refine XS.aloadN X8.here hx rfl (hb hby own_d5_102) rfl rfl ?_
    show Steps p.tables e below (T8.setTop (mkF m 103 #[.val (.ref g), .val (.int p1), .val (.int p2), .unset] [(.ref g)])) _
    refine XS.dup X8.here hx rfl (hb hby own_d5_103) rfl rfl ?_
    show Steps p.tables e below (T8.setTop (mkF m 104 #[.val (.ref g), .val (.int p1), .val (.int p2), .unset] [(.ref g), (.ref g)])) _
    refine st9 _ ?_
    show Steps p.tables e below (T9.setTop (mkF m 107 #[.val (.ref g), .val (.int p1), .val (.int p2), .unset] [(.int sz), (.ref g)])) _
    refine XS.iconst X9.here hx rfl (hb hby own_d5_107) ?_
    show Steps p.tables e below (T9.setTop (mkF m 108 #[.val (.ref g), .val (.int p1), .val (.int p2), .unset] [(.int (1 : Int32)), (.int sz), (.ref g)])) _
    refine XS.iadd X9.here hx rfl (hb hby own_d5_108) rfl ?_
    show Steps p.tables e below (T9.setTop (mkF m 109 #[.val (.ref g), .val (.int p1), .val (.int p2), .unset] [(.int (sz + (1 : Int32))), (.ref g)])) _
    refine st10 _ ?_
    show Steps p.tables e below (T10.setTop (mkF m 112 #[.val (.ref g), .val (.int p1), .val (.int p2), .unset] [])) _
    exact X10.returnOut hx Bd.returns (hb hby own_d5_112) hr
  · show own_Qa Z n0 g P M S F n sz f _ T10.heap _
    rw [e10]
    exact ⟨rfl, N10, O10, ⟨f10_E_g, f10_F_g_processes, f10_F_g_size, f10_F_g_parents, f10_F_g_movers, f10_F_g_successors, f10_F_g_facts, ⟨_, f10_A_P, zP5⟩, ⟨_, f10_A_M, zM8⟩, ⟨cS, f10_A_S, zS⟩, ⟨cF, f10_A_F, zF, vF⟩, ⟨ge_g, ge_P, ge_M, ge_S, ge_F⟩, ⟨ne_gP, ne_gM, ne_gS, ne_gF, ne_PM, ne_PS, ne_PF, ne_MS, ne_MF, ne_SF⟩⟩⟩
theorem own_d7_0 : decode prog_46_method_6_code 0 = .ok (.aload_n 0, 1) := by decide +kernel
theorem own_d7_1 : decode prog_46_method_6_code 1 = .ok (.getfield 28, 3) := by decide +kernel
theorem own_d7_4 : decode prog_46_method_6_code 4 = .ok (.iload_n 1, 1) := by decide +kernel
theorem own_d7_5 : decode prog_46_method_6_code 5 = .ok (.aload_n 0, 1) := by decide +kernel
theorem own_d7_6 : decode prog_46_method_6_code 6 = .ok (.getfield 16, 3) := by decide +kernel
theorem own_d7_9 : decode prog_46_method_6_code 9 = .ok (.imul, 1) := by decide +kernel
theorem own_d7_10 : decode prog_46_method_6_code 10 = .ok (.iload_n 2, 1) := by decide +kernel
theorem own_d7_11 : decode prog_46_method_6_code 11 = .ok (.iadd, 1) := by decide +kernel
theorem own_d7_12 : decode prog_46_method_6_code 12 = .ok (.iload 6, 2) := by decide +kernel
theorem own_d7_14 : decode prog_46_method_6_code 14 = .ok (.iastore, 1) := by decide +kernel
theorem own_d7_15 : decode prog_46_method_6_code 15 = .ok (.aload_n 0, 1) := by decide +kernel
theorem own_d7_16 : decode prog_46_method_6_code 16 = .ok (.getfield 31, 3) := by decide +kernel
theorem own_d7_19 : decode prog_46_method_6_code 19 = .ok (.iload_n 1, 1) := by decide +kernel
theorem own_d7_20 : decode prog_46_method_6_code 20 = .ok (.aload_n 0, 1) := by decide +kernel
theorem own_d7_21 : decode prog_46_method_6_code 21 = .ok (.getfield 16, 3) := by decide +kernel
theorem own_d7_24 : decode prog_46_method_6_code 24 = .ok (.imul, 1) := by decide +kernel
theorem own_d7_25 : decode prog_46_method_6_code 25 = .ok (.iload_n 2, 1) := by decide +kernel
theorem own_d7_26 : decode prog_46_method_6_code 26 = .ok (.iadd, 1) := by decide +kernel
theorem own_d7_27 : decode prog_46_method_6_code 27 = .ok (.aload_n 3, 1) := by decide +kernel
theorem own_d7_28 : decode prog_46_method_6_code 28 = .ok (.invokevirtual 47, 3) := by decide +kernel
theorem own_pd2 : parseMethodDescriptor "()I" = some ⟨[], some .int⟩ := by decide +kernel
theorem own_d7_31 : decode prog_46_method_6_code 31 = .ok (.iload 4, 2) := by decide +kernel
theorem own_d7_33 : decode prog_46_method_6_code 33 = .ok (.ifCond .eq 7, 3) := by decide +kernel
theorem own_d7_40 : decode prog_46_method_6_code 40 = .ok (.iconst 0, 1) := by decide +kernel
theorem own_d7_36 : decode prog_46_method_6_code 36 = .ok (.iconst 4, 1) := by decide +kernel
theorem own_d7_37 : decode prog_46_method_6_code 37 = .ok (.goto 4, 3) := by decide +kernel
theorem own_d7_41 : decode prog_46_method_6_code 41 = .ok (.ior, 1) := by decide +kernel
theorem own_d7_42 : decode prog_46_method_6_code 42 = .ok (.iload 5, 2) := by decide +kernel
theorem own_d7_44 : decode prog_46_method_6_code 44 = .ok (.ifCond .eq 8, 3) := by decide +kernel
theorem own_d7_52 : decode prog_46_method_6_code 52 = .ok (.iconst 0, 1) := by decide +kernel
theorem own_d7_47 : decode prog_46_method_6_code 47 = .ok (.bipush 8, 2) := by decide +kernel
theorem own_d7_49 : decode prog_46_method_6_code 49 = .ok (.goto 4, 3) := by decide +kernel
theorem own_d7_53 : decode prog_46_method_6_code 53 = .ok (.ior, 1) := by decide +kernel
theorem own_d7_54 : decode prog_46_method_6_code 54 = .ok (.i2b, 1) := by decide +kernel
theorem own_d7_55 : decode prog_46_method_6_code 55 = .ok (.bastore, 1) := by decide +kernel
theorem own_d7_56 : decode prog_46_method_6_code 56 = .ok (.return_, 1) := by decide +kernel
def own_val (k p4 p5 val : Int32) : Prop := ∃ w4 d8 : Int32, ((p4 = (0 : Int32) ∧ w4 = (0 : Int32)) ∨ (¬ (p4 = (0 : Int32)) ∧ w4 = (4 : Int32))) ∧ ((p5 = (0 : Int32) ∧ d8 = (0 : Int32)) ∨ (¬ (p5 = (0 : Int32)) ∧ d8 = (8 : Int32))) ∧ val = nar .byte (((k ||| w4) ||| d8).toInt8.toInt32)
def own_Qs (Z : State) (n0 : Nat) (g P M S F : Addr) (n sz : Int32) (f : Nat → Int32) (i : Nat) (k p4 p5 : Int32) (v : Option Value) (h : Heap) (L : List Loc) : Prop := v = none ∧ Fr n0 L ∧ Old Z n0 h ∧ ∃ val, own_val k p4 p5 val ∧ own_G Z h n0 g P M S F n sz (own_up f i val)
theorem own_ef7 (m : MethodId) (x0 : Addr) (x1 : Int32) (x2 : Int32) (x3 : Addr) (x4 : Int32) (x5 : Int32) (x6 : Int32) : entryFrame m #[(.ref x0), (.int x1), (.int x2), (.ref x3), (.int x4), (.int x5), (.int x6)] 7 = mkF m 0 #[.val (.ref x0), .val (.int x1), .val (.int x2), .val (.ref x3), .val (.int x4), .val (.int x5), .val (.int x6)] [] := by first | (simp [entryFrame, mkF, argsToLocals, Value.category]; done) | rfl
set_option maxRecDepth 65536 in
set_option maxHeartbeats 40000000 in
theorem own_step (l : Launch) (Z : State) (a0 : Array Value) (hw : ∀ d ∈ tables_1, d.before a0 Z = true) (ws : List Jvm.Cond) (g P M S F : Addr) (n sz : Int32) (f : Nat → Int32) (r : Addr) (k p1 p2 p4 p5 p6 : Int32) (h0 : Heap) (n0 : Nat) (O0 : Old Z n0 h0) (G : own_G Z h0 n0 g P M S F n sz f) (ER : Exa Z Z.heap r "com/example/doorway/doorway/model/Region") (OR : Fld Z Z.heap r "java/lang/Enum" "ordinal" "I" (.int k)) (hi : 0 ≤ ((p1 * n) + p2).toInt ∧ ((p1 * n) + p2).toNatClampNeg < 1024 * n.toNatClampNeg) :
    MetFree l (⟨"com/example/doorway/doorway/checker/StateGraph", "step", "(IILcom/example/doorway/doorway/model/Region;ZZI)V"⟩ : MethodName) (head1 (Jvm.Cond.code (⟨"com/example/doorway/doorway/checker/StateGraph", "step", "(IILcom/example/doorway/doorway/model/Region;ZZI)V"⟩ : MethodName) prog_46_method_6_code 7 none :: ws) ({ frames := 1, cells := 0, slots := 0, locals := 14 } : Room)) (fun aa_ U_ => aa_ = #[(.ref g), (.int p1), (.int p2), (.ref r), (.int p4), (.int p5), (.int p6)] ∧ Z.Warmed39 U_.vm ∧ U_.heap = h0) (fun _ _ _ _ _ => True) (fun _ U_ oo_ UU_ => ∃ vv_ LL_, oo_ = .returned vv_ ∧ own_Qs Z n0 g P M S F n sz f (((p1 * n) + p2).toNatClampNeg) k p4 p5 vv_ UU_.heap LL_ ∧ FrameEnd U_ oo_ UU_ LL_ ({ frames := 1, cells := 0, slots := 0, locals := 14 } : Room).cells ({ frames := 1, cells := 0, slots := 0, locals := 14 } : Room).slots) := by
  obtain ⟨gE, F_processes, F_size, F_parents, F_movers, F_successors, F_facts, ⟨cP, AP, zP⟩, ⟨cM, AM, zM⟩, ⟨cS, AS, zS⟩, ⟨cF, AF, zF, vF⟩, ⟨ge_g, ge_P, ge_M, ge_S, ge_F⟩, ⟨ne_gP, ne_gM, ne_gS, ne_gF, ne_PM, ne_PS, ne_PF, ne_MS, ne_MF, ne_SF⟩⟩ := G
  refine MetFree.of_bodySF (plainFor_of_name own_pn1) hisR ?_
  intro p e s m args below meth c s₁ Bd hml0 hP hK
  obtain ⟨rfl, hZ, hh⟩ := hP
  have hx := Bd.exec
  have hby := Bd.bytes
  have hml : c.maxLocals = 7 := hml0
  have hown : s.vm.findClass "com/example/doorway/doorway/checker/StateGraph" = some m.cls := findClass_of_methodNamed Bd.named
  have hnm := (name_of_methodNamed Bd.named Bd.method).1
  have X0 : Stand p l e ({ frames := 1, cells := 0, slots := 0, locals := 14 } : Room) s m #[(.ref g), (.int p1), (.int p2), (.ref r), (.int p4), (.int p5), (.int p6)] below meth c s₁ [] 0 0 := Stand.of_body Bd
  have e0 : s₁.heap = h0 := by rw [← hh, Bd.state]; rfl
  have N0 := Fr.nil n0
  have pre0 : ∀ t, Steps p.tables e below (s₁.setTop (mkF m 0 #[.val (.ref g), .val (.int p1), .val (.int p2), .val (.ref r), .val (.int p4), .val (.int p5), .val (.int p6)] [])) t → Steps p.tables e below (s₁.setTop (entryFrame m #[(.ref g), (.int p1), (.int p2), (.ref r), (.int p4), (.int p5), (.int p6)] 7)) t := fun t k => castTop (own_ef7 m g p1 p2 r p4 p5 p6) k
  obtain ⟨T1, X1, e1, st1⟩ := getF X0 hx hZ hown (host := "") (Or.inl (hw _ (List.mem_of_getElem? (i := 26) rfl))) Via.refl e0 F_successors (g := (mkF m 1 #[.val (.ref g), .val (.int p1), .val (.int p2), .val (.ref r), .val (.int p4), .val (.int p5), .val (.int p6)] [(.ref g)])) rfl rfl (hb hby own_d7_1)
  obtain ⟨T2, X2, e2, st2⟩ := getF X1 hx hZ hown (host := "") (Or.inl (hw _ (List.mem_of_getElem? (i := 14) rfl))) Via.refl e1 F_processes (g := (mkF m 6 #[.val (.ref g), .val (.int p1), .val (.int p2), .val (.ref r), .val (.int p4), .val (.int p5), .val (.int p6)] [(.ref g), (.int p1), (.ref S)])) rfl rfl (hb hby own_d7_6)
  have hin3 : ¬ (((p1 * n) + p2) < 0 ∨ cS.slots.size ≤ ((p1 * n) + p2).toNatClampNeg) := own_inb zS hi
  obtain ⟨T3, h3, X3, e3, W3, st3⟩ := stI X2 hx hZ e2 AS (j := ((p1 * n) + p2)) hin3 (g := (mkF m 14 #[.val (.ref g), .val (.int p1), .val (.int p2), .val (.ref r), .val (.int p4), .val (.int p5), .val (.int p6)] [(.int p6), (.int ((p1 * n) + p2)), (.ref S)])) rfl rfl (hb hby own_d7_14)
  have f3_E_g := gE.wr W3
  have f3_F_g_processes := F_processes.other W3 (Or.inl ne_gS)
  have f3_F_g_size := F_size.other W3 (Or.inl ne_gS)
  have f3_F_g_parents := F_parents.other W3 (Or.inl ne_gS)
  have f3_F_g_movers := F_movers.other W3 (Or.inl ne_gS)
  have f3_F_g_successors := F_successors.other W3 (Or.inl ne_gS)
  have f3_F_g_facts := F_facts.other W3 (Or.inl ne_gS)
  have f3_A_P := AP.other W3 ne_PS
  have f3_A_M := AM.other W3 ne_MS
  have f3_A_S := AS.same W3
  have f3_A_F := AF.other W3 (Ne.symm ne_SF)
  have O3 := O0.wr W3 ge_S
  have N3 := Fr.snoc X3 N0 ge_S
  have zS3 := (sz_set cS ((p1 * n) + p2).toNatClampNeg (.int p6)).trans zS
  obtain ⟨T4, X4, e4, st4⟩ := getF X3 hx hZ hown (host := "") (Or.inl (hw _ (List.mem_of_getElem? (i := 29) rfl))) Via.refl e3 f3_F_g_facts (g := (mkF m 16 #[.val (.ref g), .val (.int p1), .val (.int p2), .val (.ref r), .val (.int p4), .val (.int p5), .val (.int p6)] [(.ref g)])) rfl rfl (hb hby own_d7_16)
  obtain ⟨T5, X5, e5, st5⟩ := getF X4 hx hZ hown (host := "") (Or.inl (hw _ (List.mem_of_getElem? (i := 14) rfl))) Via.refl e4 f3_F_g_processes (g := (mkF m 21 #[.val (.ref g), .val (.int p1), .val (.int p2), .val (.ref r), .val (.int p4), .val (.int p5), .val (.int p6)] [(.ref g), (.int p1), (.ref F)])) rfl rfl (hb hby own_d7_21)
  obtain ⟨cq6, kq6, q6a, q6b, q6c⟩ := isOf hZ e5 (ER.ext O3.2)
  obtain ⟨_, _, ⟨T6, L6, k6, n6⟩, -, X6, ⟨Lc6, hQ6, l6, y6, z6⟩, st6⟩ := X5.virtualBackUp hx (owner := "java/lang/Enum") (x := (⟨"com/example/doorway/doorway/model/Region", "ordinal", "()I"⟩ : MethodName)) (y := (⟨"java/lang/Enum", "ordinal", "()I"⟩ : MethodName)) hown (mvT hZ (hw _ (List.mem_of_getElem? (i := 50) rfl))) (mvT hZ (hw _ (List.mem_of_getElem? (i := 51) rfl))) (mvT hZ (hw _ (List.mem_of_getElem? (i := 52) rfl))) (by decide) (mvT hZ (hw _ (List.mem_of_getElem? (i := 54) rfl))) (mvT hZ (hw _ (List.mem_of_getElem? (i := 53) rfl))) (backOf (W := 2) (own_ord l Z a0 hw [] r k h3 n0 O3 OR) hZ (hw _ (List.mem_of_getElem? (i := 56) rfl)) (hw _ (List.mem_of_getElem? (i := 55) rfl)) (by decide) (by decide)) q6a q6c (g := (mkF m 28 #[.val (.ref g), .val (.int p1), .val (.int p2), .val (.ref r), .val (.int p4), .val (.int p5), .val (.int p6)] [(.ref r), (.int ((p1 * n) + p2)), (.ref F)])) rfl (by rw [hml]; rfl) (Steps.refl _) (argsL := []) (rest := [(.int ((p1 * n) + p2)), (.ref F)]) (lenOf own_pd2 rfl) rfl (by show 2 * 0 + _ ≤ _; exact Nat.le_of_eq rfl) (hb hby own_d7_28) (fun _ _ => ⟨rfl, e5, (by decide : 0 + 0 ≤ _), (by decide : 0 + 0 ≤ _)⟩)
  dsimp only [Pt.U, Pt.locs, Pt.cells, Pt.slots] at X6 l6 y6 z6 st6 hQ6
  subst l6 y6 z6
  obtain ⟨rfl, rfl, e6⟩ := hQ6
  try rw [List.append_nil] at X6
  obtain ⟨T7, w4, hv7, ⟨X7, e7⟩, st7⟩ : ∃ (T' : State) (w4 : Int32), ((p4 = (0 : Int32) ∧ w4 = (0 : Int32)) ∨ (¬ (p4 = (0 : Int32)) ∧ w4 = (4 : Int32))) ∧ own_Go X6 h3 T' ∧ ∀ target, Steps p.tables e below (T'.setTop (mkF m 41 #[.val (.ref g), .val (.int p1), .val (.int p2), .val (.ref r), .val (.int p4), .val (.int p5), .val (.int p6)] [(.int w4), (.int k), (.int ((p1 * n) + p2)), (.ref F)])) target → Steps p.tables e below (T6.setTop (mkF m 33 #[.val (.ref g), .val (.int p1), .val (.int p2), .val (.ref r), .val (.int p4), .val (.int p5), .val (.int p6)] [(.int p4), (.int k), (.int ((p1 * n) + p2)), (.ref F)])) target := by
    by_cases hf7 : p4 = (0 : Int32)
    · refine ⟨T6, (0 : Int32), Or.inl ⟨hf7, rfl⟩, ⟨X6, e6⟩, fun target kt => ?_⟩
      show Steps p.tables e below (T6.setTop (mkF m 33 #[.val (.ref g), .val (.int p1), .val (.int p2), .val (.ref r), .val (.int p4), .val (.int p5), .val (.int p6)] [(.int p4), (.int k), (.int ((p1 * n) + p2)), (.ref F)])) _
      refine XS.ifYes X6.here hx rfl (pc0 := 33) (pc' := 40) rfl (hb hby own_d7_33) rfl ((if0 _ _).trans (teq hf7).1) (by decide) (by decide) ?_
      show Steps p.tables e below (T6.setTop (mkF m 40 #[.val (.ref g), .val (.int p1), .val (.int p2), .val (.ref r), .val (.int p4), .val (.int p5), .val (.int p6)] [(.int k), (.int ((p1 * n) + p2)), (.ref F)])) _
      refine XS.iconst X6.here hx rfl (hb hby own_d7_40) ?_
      show Steps p.tables e below (T6.setTop (mkF m 41 #[.val (.ref g), .val (.int p1), .val (.int p2), .val (.ref r), .val (.int p4), .val (.int p5), .val (.int p6)] [(.int (0 : Int32)), (.int k), (.int ((p1 * n) + p2)), (.ref F)])) _
      exact kt
    · refine ⟨T6, (4 : Int32), Or.inr ⟨hf7, rfl⟩, ⟨X6, e6⟩, fun target kt => ?_⟩
      show Steps p.tables e below (T6.setTop (mkF m 33 #[.val (.ref g), .val (.int p1), .val (.int p2), .val (.ref r), .val (.int p4), .val (.int p5), .val (.int p6)] [(.int p4), (.int k), (.int ((p1 * n) + p2)), (.ref F)])) _
      refine XS.ifNo X6.here hx rfl (hb hby own_d7_33) rfl ((if0 _ _).trans (feq hf7).1) ?_
      show Steps p.tables e below (T6.setTop (mkF m 36 #[.val (.ref g), .val (.int p1), .val (.int p2), .val (.ref r), .val (.int p4), .val (.int p5), .val (.int p6)] [(.int k), (.int ((p1 * n) + p2)), (.ref F)])) _
      refine XS.iconst X6.here hx rfl (hb hby own_d7_36) ?_
      show Steps p.tables e below (T6.setTop (mkF m 37 #[.val (.ref g), .val (.int p1), .val (.int p2), .val (.ref r), .val (.int p4), .val (.int p5), .val (.int p6)] [(.int (4 : Int32)), (.int k), (.int ((p1 * n) + p2)), (.ref F)])) _
      refine XS.goto X6.here hx rfl (pc0 := 37) (pc' := 41) rfl (hb hby own_d7_37) (by decide) (by decide) ?_
      show Steps p.tables e below (T6.setTop (mkF m 41 #[.val (.ref g), .val (.int p1), .val (.int p2), .val (.ref r), .val (.int p4), .val (.int p5), .val (.int p6)] [(.int (4 : Int32)), (.int k), (.int ((p1 * n) + p2)), (.ref F)])) _
      exact kt
  obtain ⟨T8, d8, hv8, ⟨X8, e8⟩, st8⟩ : ∃ (T' : State) (d8 : Int32), ((p5 = (0 : Int32) ∧ d8 = (0 : Int32)) ∨ (¬ (p5 = (0 : Int32)) ∧ d8 = (8 : Int32))) ∧ own_Go X7 h3 T' ∧ ∀ target, Steps p.tables e below (T'.setTop (mkF m 53 #[.val (.ref g), .val (.int p1), .val (.int p2), .val (.ref r), .val (.int p4), .val (.int p5), .val (.int p6)] [(.int d8), (.int (k ||| w4)), (.int ((p1 * n) + p2)), (.ref F)])) target → Steps p.tables e below (T7.setTop (mkF m 44 #[.val (.ref g), .val (.int p1), .val (.int p2), .val (.ref r), .val (.int p4), .val (.int p5), .val (.int p6)] [(.int p5), (.int (k ||| w4)), (.int ((p1 * n) + p2)), (.ref F)])) target := by
    by_cases hf8 : p5 = (0 : Int32)
    · refine ⟨T7, (0 : Int32), Or.inl ⟨hf8, rfl⟩, ⟨X7, e7⟩, fun target kt => ?_⟩
      show Steps p.tables e below (T7.setTop (mkF m 44 #[.val (.ref g), .val (.int p1), .val (.int p2), .val (.ref r), .val (.int p4), .val (.int p5), .val (.int p6)] [(.int p5), (.int (k ||| w4)), (.int ((p1 * n) + p2)), (.ref F)])) _
      refine XS.ifYes X7.here hx rfl (pc0 := 44) (pc' := 52) rfl (hb hby own_d7_44) rfl ((if0 _ _).trans (teq hf8).1) (by decide) (by decide) ?_
      show Steps p.tables e below (T7.setTop (mkF m 52 #[.val (.ref g), .val (.int p1), .val (.int p2), .val (.ref r), .val (.int p4), .val (.int p5), .val (.int p6)] [(.int (k ||| w4)), (.int ((p1 * n) + p2)), (.ref F)])) _
      refine XS.iconst X7.here hx rfl (hb hby own_d7_52) ?_
      show Steps p.tables e below (T7.setTop (mkF m 53 #[.val (.ref g), .val (.int p1), .val (.int p2), .val (.ref r), .val (.int p4), .val (.int p5), .val (.int p6)] [(.int (0 : Int32)), (.int (k ||| w4)), (.int ((p1 * n) + p2)), (.ref F)])) _
      exact kt
    · refine ⟨T7, (8 : Int32), Or.inr ⟨hf8, rfl⟩, ⟨X7, e7⟩, fun target kt => ?_⟩
      show Steps p.tables e below (T7.setTop (mkF m 44 #[.val (.ref g), .val (.int p1), .val (.int p2), .val (.ref r), .val (.int p4), .val (.int p5), .val (.int p6)] [(.int p5), (.int (k ||| w4)), (.int ((p1 * n) + p2)), (.ref F)])) _
      refine XS.ifNo X7.here hx rfl (hb hby own_d7_44) rfl ((if0 _ _).trans (feq hf8).1) ?_
      show Steps p.tables e below (T7.setTop (mkF m 47 #[.val (.ref g), .val (.int p1), .val (.int p2), .val (.ref r), .val (.int p4), .val (.int p5), .val (.int p6)] [(.int (k ||| w4)), (.int ((p1 * n) + p2)), (.ref F)])) _
      refine XS.bipush X7.here hx rfl (hb hby own_d7_47) ?_
      show Steps p.tables e below (T7.setTop (mkF m 49 #[.val (.ref g), .val (.int p1), .val (.int p2), .val (.ref r), .val (.int p4), .val (.int p5), .val (.int p6)] [(.int (8 : Int32)), (.int (k ||| w4)), (.int ((p1 * n) + p2)), (.ref F)])) _
      refine XS.goto X7.here hx rfl (pc0 := 49) (pc' := 53) rfl (hb hby own_d7_49) (by decide) (by decide) ?_
      show Steps p.tables e below (T7.setTop (mkF m 53 #[.val (.ref g), .val (.int p1), .val (.int p2), .val (.ref r), .val (.int p4), .val (.int p5), .val (.int p6)] [(.int (8 : Int32)), (.int (k ||| w4)), (.int ((p1 * n) + p2)), (.ref F)])) _
      exact kt
  have hin9 : ¬ (((p1 * n) + p2) < 0 ∨ cF.slots.size ≤ ((p1 * n) + p2).toNatClampNeg) := own_inb zF hi
  obtain ⟨T9, h9, X9, e9, W9, st9⟩ := stB X8 hx hZ e8 f3_A_F (j := ((p1 * n) + p2)) hin9 (g := (mkF m 55 #[.val (.ref g), .val (.int p1), .val (.int p2), .val (.ref r), .val (.int p4), .val (.int p5), .val (.int p6)] [(.int (((k ||| w4) ||| d8).toInt8.toInt32)), (.int ((p1 * n) + p2)), (.ref F)])) rfl rfl (hb hby own_d7_55)
  have f9_E_g := f3_E_g.wr W9
  have f9_F_g_processes := f3_F_g_processes.other W9 (Or.inl ne_gF)
  have f9_F_g_size := f3_F_g_size.other W9 (Or.inl ne_gF)
  have f9_F_g_parents := f3_F_g_parents.other W9 (Or.inl ne_gF)
  have f9_F_g_movers := f3_F_g_movers.other W9 (Or.inl ne_gF)
  have f9_F_g_successors := f3_F_g_successors.other W9 (Or.inl ne_gF)
  have f9_F_g_facts := f3_F_g_facts.other W9 (Or.inl ne_gF)
  have f9_A_P := f3_A_P.other W9 ne_PF
  have f9_A_M := f3_A_M.other W9 ne_MF
  have f9_A_S := f3_A_S.other W9 ne_SF
  have f9_A_F := f3_A_F.same W9
  have O9 := O3.wr W9 ge_F
  have N9 := Fr.snoc X9 N3 ge_F
  have zF9 : (cF.setSlot ((p1 * n) + p2).toNatClampNeg (.int (nar .byte (((k ||| w4) ||| d8).toInt8.toInt32)))).slots.size = _ := (sz_set _ _ _).trans zF
  have vF9 := own_setF (x := nar .byte (((k ||| w4) ||| d8).toInt8.toInt32)) zF (hi).2 vF
  obtain ⟨fs, hr, hrun, hended, hW, hsame⟩ := X9.leave (v := none) (fun _ => rfl)
  refine ⟨_, _, pre0 _ ?_, hrun, hended, _, _, rfl, ?_, ⟨_, rfl⟩, hW, hsame.mono (by decide) (by decide)⟩
  · show Steps p.tables e below (s₁.setTop (mkF m 0 #[.val (.ref g), .val (.int p1), .val (.int p2), .val (.ref r), .val (.int p4), .val (.int p5), .val (.int p6)] [])) _
    refine XS.aloadN X0.here hx rfl (hb hby own_d7_0) rfl rfl ?_
    show Steps p.tables e below (s₁.setTop (mkF m 1 #[.val (.ref g), .val (.int p1), .val (.int p2), .val (.ref r), .val (.int p4), .val (.int p5), .val (.int p6)] [(.ref g)])) _
    refine st1 _ ?_
    show Steps p.tables e below (T1.setTop (mkF m 4 #[.val (.ref g), .val (.int p1), .val (.int p2), .val (.ref r), .val (.int p4), .val (.int p5), .val (.int p6)] [(.ref S)])) _
    refine XS.iloadN X1.here hx rfl (hb hby own_d7_4) rfl ?_
    show Steps p.tables e below (T1.setTop (mkF m 5 #[.val (.ref g), .val (.int p1), .val (.int p2), .val (.ref r), .val (.int p4), .val (.int p5), .val (.int p6)] [(.int p1), (.ref S)])) _
    refine XS.aloadN X1.here hx rfl (hb hby own_d7_5) rfl rfl ?_
    show Steps p.tables e below (T1.setTop (mkF m 6 #[.val (.ref g), .val (.int p1), .val (.int p2), .val (.ref r), .val (.int p4), .val (.int p5), .val (.int p6)] [(.ref g), (.int p1), (.ref S)])) _
    refine st2 _ ?_
    show Steps p.tables e below (T2.setTop (mkF m 9 #[.val (.ref g), .val (.int p1), .val (.int p2), .val (.ref r), .val (.int p4), .val (.int p5), .val (.int p6)] [(.int n), (.int p1), (.ref S)])) _
    refine XS.imul X2.here hx rfl (hb hby own_d7_9) rfl ?_
    show Steps p.tables e below (T2.setTop (mkF m 10 #[.val (.ref g), .val (.int p1), .val (.int p2), .val (.ref r), .val (.int p4), .val (.int p5), .val (.int p6)] [(.int (p1 * n)), (.ref S)])) _
    refine XS.iloadN X2.here hx rfl (hb hby own_d7_10) rfl ?_
    show Steps p.tables e below (T2.setTop (mkF m 11 #[.val (.ref g), .val (.int p1), .val (.int p2), .val (.ref r), .val (.int p4), .val (.int p5), .val (.int p6)] [(.int p2), (.int (p1 * n)), (.ref S)])) _
    refine XS.iadd X2.here hx rfl (hb hby own_d7_11) rfl ?_
    show Steps p.tables e below (T2.setTop (mkF m 12 #[.val (.ref g), .val (.int p1), .val (.int p2), .val (.ref r), .val (.int p4), .val (.int p5), .val (.int p6)] [(.int ((p1 * n) + p2)), (.ref S)])) _
    refine XS.iload X2.here hx rfl (hb hby own_d7_12) rfl ?_
    show Steps p.tables e below (T2.setTop (mkF m 14 #[.val (.ref g), .val (.int p1), .val (.int p2), .val (.ref r), .val (.int p4), .val (.int p5), .val (.int p6)] [(.int p6), (.int ((p1 * n) + p2)), (.ref S)])) _
    refine st3 _ ?_
    show Steps p.tables e below (T3.setTop (mkF m 15 #[.val (.ref g), .val (.int p1), .val (.int p2), .val (.ref r), .val (.int p4), .val (.int p5), .val (.int p6)] [])) _
    refine XS.aloadN X3.here hx rfl (hb hby own_d7_15) rfl rfl ?_
    show Steps p.tables e below (T3.setTop (mkF m 16 #[.val (.ref g), .val (.int p1), .val (.int p2), .val (.ref r), .val (.int p4), .val (.int p5), .val (.int p6)] [(.ref g)])) _
    refine st4 _ ?_
    show Steps p.tables e below (T4.setTop (mkF m 19 #[.val (.ref g), .val (.int p1), .val (.int p2), .val (.ref r), .val (.int p4), .val (.int p5), .val (.int p6)] [(.ref F)])) _
    refine XS.iloadN X4.here hx rfl (hb hby own_d7_19) rfl ?_
    show Steps p.tables e below (T4.setTop (mkF m 20 #[.val (.ref g), .val (.int p1), .val (.int p2), .val (.ref r), .val (.int p4), .val (.int p5), .val (.int p6)] [(.int p1), (.ref F)])) _
    refine XS.aloadN X4.here hx rfl (hb hby own_d7_20) rfl rfl ?_
    show Steps p.tables e below (T4.setTop (mkF m 21 #[.val (.ref g), .val (.int p1), .val (.int p2), .val (.ref r), .val (.int p4), .val (.int p5), .val (.int p6)] [(.ref g), (.int p1), (.ref F)])) _
    refine st5 _ ?_
    show Steps p.tables e below (T5.setTop (mkF m 24 #[.val (.ref g), .val (.int p1), .val (.int p2), .val (.ref r), .val (.int p4), .val (.int p5), .val (.int p6)] [(.int n), (.int p1), (.ref F)])) _
    refine XS.imul X5.here hx rfl (hb hby own_d7_24) rfl ?_
    show Steps p.tables e below (T5.setTop (mkF m 25 #[.val (.ref g), .val (.int p1), .val (.int p2), .val (.ref r), .val (.int p4), .val (.int p5), .val (.int p6)] [(.int (p1 * n)), (.ref F)])) _
    refine XS.iloadN X5.here hx rfl (hb hby own_d7_25) rfl ?_
    show Steps p.tables e below (T5.setTop (mkF m 26 #[.val (.ref g), .val (.int p1), .val (.int p2), .val (.ref r), .val (.int p4), .val (.int p5), .val (.int p6)] [(.int p2), (.int (p1 * n)), (.ref F)])) _
    refine XS.iadd X5.here hx rfl (hb hby own_d7_26) rfl ?_
    show Steps p.tables e below (T5.setTop (mkF m 27 #[.val (.ref g), .val (.int p1), .val (.int p2), .val (.ref r), .val (.int p4), .val (.int p5), .val (.int p6)] [(.int ((p1 * n) + p2)), (.ref F)])) _
    refine XS.aloadN X5.here hx rfl (hb hby own_d7_27) rfl rfl ?_
    show Steps p.tables e below (T5.setTop (mkF m 28 #[.val (.ref g), .val (.int p1), .val (.int p2), .val (.ref r), .val (.int p4), .val (.int p5), .val (.int p6)] [(.ref r), (.int ((p1 * n) + p2)), (.ref F)])) _
    refine st6.trans ?_
    show Steps p.tables e below (T6.setTop (mkF m 31 #[.val (.ref g), .val (.int p1), .val (.int p2), .val (.ref r), .val (.int p4), .val (.int p5), .val (.int p6)] [(.int k), (.int ((p1 * n) + p2)), (.ref F)])) _
    refine XS.iload X6.here hx rfl (hb hby own_d7_31) rfl ?_
    refine st7 _ ?_
    show Steps p.tables e below (T7.setTop (mkF m 41 #[.val (.ref g), .val (.int p1), .val (.int p2), .val (.ref r), .val (.int p4), .val (.int p5), .val (.int p6)] [(.int w4), (.int k), (.int ((p1 * n) + p2)), (.ref F)])) _
    refine XS.ior X7.here hx rfl (hb hby own_d7_41) rfl ?_
    show Steps p.tables e below (T7.setTop (mkF m 42 #[.val (.ref g), .val (.int p1), .val (.int p2), .val (.ref r), .val (.int p4), .val (.int p5), .val (.int p6)] [(.int (k ||| w4)), (.int ((p1 * n) + p2)), (.ref F)])) _
    refine XS.iload X7.here hx rfl (hb hby own_d7_42) rfl ?_
    refine st8 _ ?_
    show Steps p.tables e below (T8.setTop (mkF m 53 #[.val (.ref g), .val (.int p1), .val (.int p2), .val (.ref r), .val (.int p4), .val (.int p5), .val (.int p6)] [(.int d8), (.int (k ||| w4)), (.int ((p1 * n) + p2)), (.ref F)])) _
    refine XS.ior X8.here hx rfl (hb hby own_d7_53) rfl ?_
    show Steps p.tables e below (T8.setTop (mkF m 54 #[.val (.ref g), .val (.int p1), .val (.int p2), .val (.ref r), .val (.int p4), .val (.int p5), .val (.int p6)] [(.int ((k ||| w4) ||| d8)), (.int ((p1 * n) + p2)), (.ref F)])) _
    refine XS.i2b X8.here hx rfl (hb hby own_d7_54) rfl ?_
    show Steps p.tables e below (T8.setTop (mkF m 55 #[.val (.ref g), .val (.int p1), .val (.int p2), .val (.ref r), .val (.int p4), .val (.int p5), .val (.int p6)] [(.int (((k ||| w4) ||| d8).toInt8.toInt32)), (.int ((p1 * n) + p2)), (.ref F)])) _
    refine st9 _ ?_
    show Steps p.tables e below (T9.setTop (mkF m 56 #[.val (.ref g), .val (.int p1), .val (.int p2), .val (.ref r), .val (.int p4), .val (.int p5), .val (.int p6)] [])) _
    exact X9.returnOut hx Bd.returns (hb hby own_d7_56) hr
  · show own_Qs Z n0 g P M S F n sz f (((p1 * n) + p2).toNatClampNeg) k p4 p5 _ T9.heap _
    rw [e9]
    exact ⟨rfl, N9, O9, _, ⟨w4, d8, hv7, hv8, rfl⟩, ⟨f9_E_g, f9_F_g_processes, f9_F_g_size, f9_F_g_parents, f9_F_g_movers, f9_F_g_successors, f9_F_g_facts, ⟨cP, f9_A_P, zP⟩, ⟨cM, f9_A_M, zM⟩, ⟨_, f9_A_S, zS3⟩, ⟨_, f9_A_F, zF9, vF9⟩, ⟨ge_g, ge_P, ge_M, ge_S, ge_F⟩, ⟨ne_gP, ne_gM, ne_gS, ne_gF, ne_PM, ne_PS, ne_PF, ne_MS, ne_MF, ne_SF⟩⟩⟩
theorem own_d9_0 : decode prog_46_method_11_code 0 = .ok (.aload_n 0, 1) := by decide +kernel
theorem own_d9_1 : decode prog_46_method_11_code 1 = .ok (.getfield 31, 3) := by decide +kernel
theorem own_d9_4 : decode prog_46_method_11_code 4 = .ok (.iload_n 1, 1) := by decide +kernel
theorem own_d9_5 : decode prog_46_method_11_code 5 = .ok (.aload_n 0, 1) := by decide +kernel
theorem own_d9_6 : decode prog_46_method_11_code 6 = .ok (.getfield 16, 3) := by decide +kernel
theorem own_d9_9 : decode prog_46_method_11_code 9 = .ok (.imul, 1) := by decide +kernel
theorem own_d9_10 : decode prog_46_method_11_code 10 = .ok (.iload_n 2, 1) := by decide +kernel
theorem own_d9_11 : decode prog_46_method_11_code 11 = .ok (.iadd, 1) := by decide +kernel
theorem own_d9_12 : decode prog_46_method_11_code 12 = .ok (.baload, 1) := by decide +kernel
theorem own_d9_13 : decode prog_46_method_11_code 13 = .ok (.bipush 8, 2) := by decide +kernel
theorem own_d9_15 : decode prog_46_method_11_code 15 = .ok (.iand, 1) := by decide +kernel
theorem own_d9_16 : decode prog_46_method_11_code 16 = .ok (.ifCond .eq 7, 3) := by decide +kernel
theorem own_d9_23 : decode prog_46_method_11_code 23 = .ok (.iconst 0, 1) := by decide +kernel
theorem own_d9_19 : decode prog_46_method_11_code 19 = .ok (.iconst 1, 1) := by decide +kernel
theorem own_d9_20 : decode prog_46_method_11_code 20 = .ok (.goto 4, 3) := by decide +kernel
theorem own_d9_24 : decode prog_46_method_11_code 24 = .ok (.ireturn, 1) := by decide +kernel
def own_bit (x r : Int32) : Prop := ((x &&& (8 : Int32)) = (0 : Int32) ∧ r = (0 : Int32)) ∨ (¬ ((x &&& (8 : Int32)) = (0 : Int32)) ∧ r = (1 : Int32))
def own_Qr (x : Int32) (h0 : Heap) (v : Option Value) (h : Heap) (L : List Loc) : Prop := ∃ r : Int32, v = some (.int r) ∧ L = [] ∧ h = h0 ∧ own_bit x r
theorem own_ef9 (m : MethodId) (x0 : Addr) (x1 : Int32) (x2 : Int32) : entryFrame m #[(.ref x0), (.int x1), (.int x2)] 3 = mkF m 0 #[.val (.ref x0), .val (.int x1), .val (.int x2)] [] := by first | (simp [entryFrame, mkF, argsToLocals, Value.category]; done) | rfl
set_option maxRecDepth 65536 in
set_option maxHeartbeats 40000000 in
theorem own_read (l : Launch) (Z : State) (a0 : Array Value) (hw : ∀ d ∈ tables_1, d.before a0 Z = true) (ws : List Jvm.Cond) (g P M S F : Addr) (n sz : Int32) (f : Nat → Int32) (p1 p2 : Int32) (h0 : Heap) (n0 : Nat) (O0 : Old Z n0 h0) (G : own_G Z h0 n0 g P M S F n sz f) (hi : 0 ≤ ((p1 * n) + p2).toInt ∧ ((p1 * n) + p2).toNatClampNeg < 1024 * n.toNatClampNeg) :
    MetFree l (⟨"com/example/doorway/doorway/checker/StateGraph", "atDoorway", "(II)Z"⟩ : MethodName) (head1 (Jvm.Cond.code (⟨"com/example/doorway/doorway/checker/StateGraph", "atDoorway", "(II)Z"⟩ : MethodName) prog_46_method_11_code 3 (some .boolean) :: ws) ({ frames := 0, cells := 0, slots := 0, locals := 0 } : Room)) (fun aa_ U_ => aa_ = #[(.ref g), (.int p1), (.int p2)] ∧ Z.Warmed39 U_.vm ∧ U_.heap = h0) (fun _ _ _ _ _ => True) (fun _ U_ oo_ UU_ => ∃ vv_ LL_, oo_ = .returned vv_ ∧ own_Qr (f ((p1 * n) + p2).toNatClampNeg) h0 vv_ UU_.heap LL_ ∧ FrameEnd U_ oo_ UU_ LL_ ({ frames := 0, cells := 0, slots := 0, locals := 0 } : Room).cells ({ frames := 0, cells := 0, slots := 0, locals := 0 } : Room).slots) := by
  obtain ⟨gE, F_processes, F_size, F_parents, F_movers, F_successors, F_facts, ⟨cP, AP, zP⟩, ⟨cM, AM, zM⟩, ⟨cS, AS, zS⟩, ⟨cF, AF, zF, vF⟩, ⟨ge_g, ge_P, ge_M, ge_S, ge_F⟩, ⟨ne_gP, ne_gM, ne_gS, ne_gF, ne_PM, ne_PS, ne_PF, ne_MS, ne_MF, ne_SF⟩⟩ := G
  refine MetFree.of_bodySF (plainFor_of_name own_pn1) hisR ?_
  intro p e s m args below meth c s₁ Bd hml0 hP hK
  obtain ⟨rfl, hZ, hh⟩ := hP
  have hx := Bd.exec
  have hby := Bd.bytes
  have hml : c.maxLocals = 3 := hml0
  have hown : s.vm.findClass "com/example/doorway/doorway/checker/StateGraph" = some m.cls := findClass_of_methodNamed Bd.named
  have hnm := (name_of_methodNamed Bd.named Bd.method).1
  have X0 : Stand p l e ({ frames := 0, cells := 0, slots := 0, locals := 0 } : Room) s m #[(.ref g), (.int p1), (.int p2)] below meth c s₁ [] 0 0 := Stand.of_body Bd
  have e0 : s₁.heap = h0 := by rw [← hh, Bd.state]; rfl
  have N0 := Fr.nil n0
  have pre0 : ∀ t, Steps p.tables e below (s₁.setTop (mkF m 0 #[.val (.ref g), .val (.int p1), .val (.int p2)] [])) t → Steps p.tables e below (s₁.setTop (entryFrame m #[(.ref g), (.int p1), (.int p2)] 3)) t := fun t k => castTop (own_ef9 m g p1 p2) k
  obtain ⟨T1, X1, e1, st1⟩ := getF X0 hx hZ hown (host := "") (Or.inl (hw _ (List.mem_of_getElem? (i := 29) rfl))) Via.refl e0 F_facts (g := (mkF m 1 #[.val (.ref g), .val (.int p1), .val (.int p2)] [(.ref g)])) rfl rfl (hb hby own_d9_1)
  obtain ⟨T2, X2, e2, st2⟩ := getF X1 hx hZ hown (host := "") (Or.inl (hw _ (List.mem_of_getElem? (i := 14) rfl))) Via.refl e1 F_processes (g := (mkF m 6 #[.val (.ref g), .val (.int p1), .val (.int p2)] [(.ref g), (.int p1), (.ref F)])) rfl rfl (hb hby own_d9_6)
  have hinb : ¬ (((p1 * n) + p2) < 0 ∨ cF.slots.size ≤ ((p1 * n) + p2).toNatClampNeg) := own_inb zF hi
  have hatb := vF ((p1 * n) + p2).toNatClampNeg hi.2
  obtain ⟨T3, rb, hv3, ⟨X3, e3⟩, st3⟩ : ∃ (T' : State) (rb : Int32), ((((f ((p1 * n) + p2).toNatClampNeg) &&& (8 : Int32)) = (0 : Int32) ∧ rb = (0 : Int32)) ∨ (¬ (((f ((p1 * n) + p2).toNatClampNeg) &&& (8 : Int32)) = (0 : Int32)) ∧ rb = (1 : Int32))) ∧ own_Go X2 h0 T' ∧ ∀ target, Steps p.tables e below (T'.setTop (mkF m 24 #[.val (.ref g), .val (.int p1), .val (.int p2)] [(.int rb)])) target → Steps p.tables e below (T2.setTop (mkF m 16 #[.val (.ref g), .val (.int p1), .val (.int p2)] [(.int ((f ((p1 * n) + p2).toNatClampNeg) &&& (8 : Int32)))])) target := by
    by_cases hf3 : ((f ((p1 * n) + p2).toNatClampNeg) &&& (8 : Int32)) = (0 : Int32)
    · refine ⟨T2, (0 : Int32), Or.inl ⟨hf3, rfl⟩, ⟨X2, e2⟩, fun target kt => ?_⟩
      show Steps p.tables e below (T2.setTop (mkF m 16 #[.val (.ref g), .val (.int p1), .val (.int p2)] [(.int ((f ((p1 * n) + p2).toNatClampNeg) &&& (8 : Int32)))])) _
      refine XS.ifYes X2.here hx rfl (pc0 := 16) (pc' := 23) rfl (hb hby own_d9_16) rfl ((if0 _ _).trans (teq hf3).1) (by decide) (by decide) ?_
      show Steps p.tables e below (T2.setTop (mkF m 23 #[.val (.ref g), .val (.int p1), .val (.int p2)] [])) _
      refine XS.iconst X2.here hx rfl (hb hby own_d9_23) ?_
      show Steps p.tables e below (T2.setTop (mkF m 24 #[.val (.ref g), .val (.int p1), .val (.int p2)] [(.int (0 : Int32))])) _
      exact kt
    · refine ⟨T2, (1 : Int32), Or.inr ⟨hf3, rfl⟩, ⟨X2, e2⟩, fun target kt => ?_⟩
      show Steps p.tables e below (T2.setTop (mkF m 16 #[.val (.ref g), .val (.int p1), .val (.int p2)] [(.int ((f ((p1 * n) + p2).toNatClampNeg) &&& (8 : Int32)))])) _
      refine XS.ifNo X2.here hx rfl (hb hby own_d9_16) rfl ((if0 _ _).trans (feq hf3).1) ?_
      show Steps p.tables e below (T2.setTop (mkF m 19 #[.val (.ref g), .val (.int p1), .val (.int p2)] [])) _
      refine XS.iconst X2.here hx rfl (hb hby own_d9_19) ?_
      show Steps p.tables e below (T2.setTop (mkF m 20 #[.val (.ref g), .val (.int p1), .val (.int p2)] [(.int (1 : Int32))])) _
      refine XS.goto X2.here hx rfl (pc0 := 20) (pc' := 24) rfl (hb hby own_d9_20) (by decide) (by decide) ?_
      show Steps p.tables e below (T2.setTop (mkF m 24 #[.val (.ref g), .val (.int p1), .val (.int p2)] [(.int (1 : Int32))])) _
      exact kt
  obtain ⟨fs, hr, hrun, hended, hW, hsame⟩ := X3.leave (v := some (.int (nar .boolean rb))) (fun h => by rw [Bd.returns] at h; cases h)
  refine ⟨_, _, pre0 _ ?_, hrun, hended, _, _, rfl, ?_, ⟨_, rfl⟩, hW, hsame.mono (by decide) (by decide)⟩
  · show Steps p.tables e below (s₁.setTop (mkF m 0 #[.val (.ref g), .val (.int p1), .val (.int p2)] [])) _
    refine XS.aloadN X0.here hx rfl (hb hby own_d9_0) rfl rfl ?_
    show Steps p.tables e below (s₁.setTop (mkF m 1 #[.val (.ref g), .val (.int p1), .val (.int p2)] [(.ref g)])) _
    refine st1 _ ?_
    show Steps p.tables e below (T1.setTop (mkF m 4 #[.val (.ref g), .val (.int p1), .val (.int p2)] [(.ref F)])) _
    refine XS.iloadN X1.here hx rfl (hb hby own_d9_4) rfl ?_
    show Steps p.tables e below (T1.setTop (mkF m 5 #[.val (.ref g), .val (.int p1), .val (.int p2)] [(.int p1), (.ref F)])) _
    refine XS.aloadN X1.here hx rfl (hb hby own_d9_5) rfl rfl ?_
    show Steps p.tables e below (T1.setTop (mkF m 6 #[.val (.ref g), .val (.int p1), .val (.int p2)] [(.ref g), (.int p1), (.ref F)])) _
    refine st2 _ ?_
    show Steps p.tables e below (T2.setTop (mkF m 9 #[.val (.ref g), .val (.int p1), .val (.int p2)] [(.int n), (.int p1), (.ref F)])) _
    refine XS.imul X2.here hx rfl (hb hby own_d9_9) rfl ?_
    show Steps p.tables e below (T2.setTop (mkF m 10 #[.val (.ref g), .val (.int p1), .val (.int p2)] [(.int (p1 * n)), (.ref F)])) _
    refine XS.iloadN X2.here hx rfl (hb hby own_d9_10) rfl ?_
    show Steps p.tables e below (T2.setTop (mkF m 11 #[.val (.ref g), .val (.int p1), .val (.int p2)] [(.int p2), (.int (p1 * n)), (.ref F)])) _
    refine XS.iadd X2.here hx rfl (hb hby own_d9_11) rfl ?_
    show Steps p.tables e below (T2.setTop (mkF m 12 #[.val (.ref g), .val (.int p1), .val (.int p2)] [(.int ((p1 * n) + p2)), (.ref F)])) _
    refine X2.baloadBytes hx (j := ((p1 * n) + p2)) (v := (.int (f ((p1 * n) + p2).toNatClampNeg))) (by rw [e2]; exact AF.1) (State.isArrayOf_alike hZ.alike AF.2.1) AF.2.2 hinb hatb (g := (mkF m 12 #[.val (.ref g), .val (.int p1), .val (.int p2)] [(.int ((p1 * n) + p2)), (.ref F)])) rfl rfl (hb hby own_d9_12) _ ?_
    show Steps p.tables e below (T2.setTop (mkF m 13 #[.val (.ref g), .val (.int p1), .val (.int p2)] [(.int (f ((p1 * n) + p2).toNatClampNeg))])) _
    refine XS.bipush X2.here hx rfl (hb hby own_d9_13) ?_
    show Steps p.tables e below (T2.setTop (mkF m 15 #[.val (.ref g), .val (.int p1), .val (.int p2)] [(.int (8 : Int32)), (.int (f ((p1 * n) + p2).toNatClampNeg))])) _
    refine XS.iand X2.here hx rfl (hb hby own_d9_15) rfl ?_
    refine st3 _ ?_
    show Steps p.tables e below (T3.setTop (mkF m 24 #[.val (.ref g), .val (.int p1), .val (.int p2)] [(.int rb)])) _
    exact retN X3 hx (t := .boolean) Bd.returns (by simp) (hb hby own_d9_24) hr
  · show own_Qr (f ((p1 * n) + p2).toNatClampNeg) h0 _ T3.heap _
    rw [e3]
    refine ⟨_, rfl, rfl, rfl, ?_⟩
    rcases hv3 with ⟨a, rfl⟩ | ⟨a, rfl⟩
    · exact Or.inl ⟨a, by decide⟩
    · exact Or.inr ⟨a, by decide⟩
theorem own_d6_0 : decode method_2_code 0 = .ok (.iload_n 0, 1) := by decide +kernel
theorem own_d6_1 : decode method_2_code 1 = .ok (.ifCond .ne 7, 3) := by decide +kernel
theorem own_d6_4 : decode method_2_code 4 = .ok (.getstatic 7, 3) := by decide +kernel
theorem own_d6_7 : decode method_2_code 7 = .ok (.areturn, 1) := by decide +kernel
theorem own_ef6 (m : MethodId) (x0 : Int32) : entryFrame m #[(.int x0)] 1 = mkF m 0 #[.val (.int x0)] [] := by first | (simp [entryFrame, mkF, argsToLocals, Value.category]; done) | rfl
theorem own_pn2 : plainName "com/example/doorway/doorway/checker/StateGraphAtDoorwayPinLaw" = true := by first | (simp [plainName, overriddenIn]; done) | decide +kernel
set_option maxRecDepth 65536 in
set_option maxHeartbeats 40000000 in
theorem own_pick0 (l : Launch) (Z : State) (a0 : Array Value) (hw : ∀ d ∈ tables_1, d.before a0 Z = true) (ws : List Jvm.Cond) (c0 c1 c2 c3 ra : Addr) (cl : Cell) (p1 : Int32) (h0 : Heap) (n0 : Nat) (O0 : Old Z n0 h0) (K : own_W Z c0 c1 c2 c3 ra cl) (hk0 : p1 = (0 : Int32)) :
    MetFree l (⟨"com/example/doorway/doorway/checker/StateGraphAtDoorwayPinLaw", "region", "(I)Lcom/example/doorway/doorway/model/Region;"⟩ : MethodName) (head1 (Jvm.Cond.code (⟨"com/example/doorway/doorway/checker/StateGraphAtDoorwayPinLaw", "region", "(I)Lcom/example/doorway/doorway/model/Region;"⟩ : MethodName) method_2_code 1 (some (.object "com/example/doorway/doorway/model/Region")) :: ws) ({ frames := 0, cells := 0, slots := 0, locals := 0 } : Room)) (fun aa_ U_ => aa_ = #[(.int p1)] ∧ Z.Warmed39 U_.vm ∧ U_.heap = h0) (fun _ _ _ _ _ => True) (fun _ U_ oo_ UU_ => ∃ vv_ LL_, oo_ = .returned vv_ ∧ own_P (.ref c0) h0 vv_ UU_.heap LL_ ∧ FrameEnd U_ oo_ UU_ LL_ ({ frames := 0, cells := 0, slots := 0, locals := 0 } : Room).cells ({ frames := 0, cells := 0, slots := 0, locals := 0 } : Room).slots) := by
  obtain ⟨S0, S1, S2, S3, -⟩ := K
  refine MetFree.of_bodySF (plainFor_of_name own_pn2) hisR ?_
  intro p e s m args below meth c s₁ Bd hml0 hP hK
  obtain ⟨rfl, hZ, hh⟩ := hP
  have hx := Bd.exec
  have hby := Bd.bytes
  have hml : c.maxLocals = 1 := hml0
  have hown : s.vm.findClass "com/example/doorway/doorway/checker/StateGraphAtDoorwayPinLaw" = some m.cls := findClass_of_methodNamed Bd.named
  have hnm := (name_of_methodNamed Bd.named Bd.method).1
  have X0 : Stand p l e ({ frames := 0, cells := 0, slots := 0, locals := 0 } : Room) s m #[(.int p1)] below meth c s₁ [] 0 0 := Stand.of_body Bd
  have e0 : s₁.heap = h0 := by rw [← hh, Bd.state]; rfl
  have N0 := Fr.nil n0
  have pre0 : ∀ t, Steps p.tables e below (s₁.setTop (mkF m 0 #[.val (.int p1)] [])) t → Steps p.tables e below (s₁.setTop (entryFrame m #[(.int p1)] 1)) t := fun t k => castTop (own_ef6 m p1) k
  obtain ⟨T1, X1, e1, st1⟩ := getS2 X0 hx hZ hown (host := "") (Or.inl (hw _ (List.mem_of_getElem? (i := 42) rfl))) Via.refl e0 (S0.ext O0.2) (g := (mkF m 4 #[.val (.int p1)] [])) rfl (hb hby own_d6_4)
  obtain ⟨fs, hr, hrun, hended, hW, hsame⟩ := X1.leave (v := some (.ref c0)) (fun h => by rw [Bd.returns] at h; cases h)
  refine ⟨_, _, pre0 _ ?_, hrun, hended, _, _, rfl, ?_, ⟨_, rfl⟩, hW, hsame.mono (by decide) (by decide)⟩
  · show Steps p.tables e below (s₁.setTop (mkF m 0 #[.val (.int p1)] [])) _
    refine XS.iloadN X0.here hx rfl (hb hby own_d6_0) rfl ?_
    show Steps p.tables e below (s₁.setTop (mkF m 1 #[.val (.int p1)] [(.int p1)])) _
    refine XS.ifNo X0.here hx rfl (hb hby own_d6_1) rfl ((if0 _ _).trans (teq hk0).2) ?_
    show Steps p.tables e below (s₁.setTop (mkF m 4 #[.val (.int p1)] [])) _
    refine st1 _ ?_
    show Steps p.tables e below (T1.setTop (mkF m 7 #[.val (.int p1)] [(.ref c0)])) _
    jvm_step X1.here [X1.here.top, hx, (hb hby own_d6_7), X1.method', Bd.returns, Value.isRef, FieldType.isReference]
    first | (intro acts; rw [hr _ acts rfl rfl rfl]) | rw [hr _ _ rfl rfl rfl]
    exact Steps.refl _
  · show own_P (.ref c0) h0 _ T1.heap _
    rw [e1]
    exact ⟨rfl, rfl, rfl⟩
theorem own_d6_8 : decode method_2_code 8 = .ok (.iload_n 0, 1) := by decide +kernel
theorem own_d6_9 : decode method_2_code 9 = .ok (.iconst 1, 1) := by decide +kernel
theorem own_d6_10 : decode method_2_code 10 = .ok (.if_icmp .ne 7, 3) := by decide +kernel
theorem own_d6_13 : decode method_2_code 13 = .ok (.getstatic 13, 3) := by decide +kernel
theorem own_d6_16 : decode method_2_code 16 = .ok (.areturn, 1) := by decide +kernel
set_option maxRecDepth 65536 in
set_option maxHeartbeats 40000000 in
theorem own_pick1 (l : Launch) (Z : State) (a0 : Array Value) (hw : ∀ d ∈ tables_1, d.before a0 Z = true) (ws : List Jvm.Cond) (c0 c1 c2 c3 ra : Addr) (cl : Cell) (p1 : Int32) (h0 : Heap) (n0 : Nat) (O0 : Old Z n0 h0) (K : own_W Z c0 c1 c2 c3 ra cl) (hk0 : ¬ (p1 = (0 : Int32))) (hk1 : p1 = (1 : Int32)) :
    MetFree l (⟨"com/example/doorway/doorway/checker/StateGraphAtDoorwayPinLaw", "region", "(I)Lcom/example/doorway/doorway/model/Region;"⟩ : MethodName) (head1 (Jvm.Cond.code (⟨"com/example/doorway/doorway/checker/StateGraphAtDoorwayPinLaw", "region", "(I)Lcom/example/doorway/doorway/model/Region;"⟩ : MethodName) method_2_code 1 (some (.object "com/example/doorway/doorway/model/Region")) :: ws) ({ frames := 0, cells := 0, slots := 0, locals := 0 } : Room)) (fun aa_ U_ => aa_ = #[(.int p1)] ∧ Z.Warmed39 U_.vm ∧ U_.heap = h0) (fun _ _ _ _ _ => True) (fun _ U_ oo_ UU_ => ∃ vv_ LL_, oo_ = .returned vv_ ∧ own_P (.ref c1) h0 vv_ UU_.heap LL_ ∧ FrameEnd U_ oo_ UU_ LL_ ({ frames := 0, cells := 0, slots := 0, locals := 0 } : Room).cells ({ frames := 0, cells := 0, slots := 0, locals := 0 } : Room).slots) := by
  obtain ⟨S0, S1, S2, S3, -⟩ := K
  refine MetFree.of_bodySF (plainFor_of_name own_pn2) hisR ?_
  intro p e s m args below meth c s₁ Bd hml0 hP hK
  obtain ⟨rfl, hZ, hh⟩ := hP
  have hx := Bd.exec
  have hby := Bd.bytes
  have hml : c.maxLocals = 1 := hml0
  have hown : s.vm.findClass "com/example/doorway/doorway/checker/StateGraphAtDoorwayPinLaw" = some m.cls := findClass_of_methodNamed Bd.named
  have hnm := (name_of_methodNamed Bd.named Bd.method).1
  have X0 : Stand p l e ({ frames := 0, cells := 0, slots := 0, locals := 0 } : Room) s m #[(.int p1)] below meth c s₁ [] 0 0 := Stand.of_body Bd
  have e0 : s₁.heap = h0 := by rw [← hh, Bd.state]; rfl
  have N0 := Fr.nil n0
  have pre0 : ∀ t, Steps p.tables e below (s₁.setTop (mkF m 0 #[.val (.int p1)] [])) t → Steps p.tables e below (s₁.setTop (entryFrame m #[(.int p1)] 1)) t := fun t k => castTop (own_ef6 m p1) k
  obtain ⟨T1, X1, e1, st1⟩ := getS2 X0 hx hZ hown (host := "") (Or.inl (hw _ (List.mem_of_getElem? (i := 64) rfl))) Via.refl e0 (S1.ext O0.2) (g := (mkF m 13 #[.val (.int p1)] [])) rfl (hb hby own_d6_13)
  obtain ⟨fs, hr, hrun, hended, hW, hsame⟩ := X1.leave (v := some (.ref c1)) (fun h => by rw [Bd.returns] at h; cases h)
  refine ⟨_, _, pre0 _ ?_, hrun, hended, _, _, rfl, ?_, ⟨_, rfl⟩, hW, hsame.mono (by decide) (by decide)⟩
  · show Steps p.tables e below (s₁.setTop (mkF m 0 #[.val (.int p1)] [])) _
    refine XS.iloadN X0.here hx rfl (hb hby own_d6_0) rfl ?_
    show Steps p.tables e below (s₁.setTop (mkF m 1 #[.val (.int p1)] [(.int p1)])) _
    refine XS.ifYes X0.here hx rfl (pc0 := 1) (pc' := 8) rfl (hb hby own_d6_1) rfl ((if0 _ _).trans (feq hk0).2) (by decide) (by decide) ?_
    show Steps p.tables e below (s₁.setTop (mkF m 8 #[.val (.int p1)] [])) _
    refine XS.iloadN X0.here hx rfl (hb hby own_d6_8) rfl ?_
    show Steps p.tables e below (s₁.setTop (mkF m 9 #[.val (.int p1)] [(.int p1)])) _
    refine XS.iconst X0.here hx rfl (hb hby own_d6_9) ?_
    show Steps p.tables e below (s₁.setTop (mkF m 10 #[.val (.int p1)] [(.int (1 : Int32)), (.int p1)])) _
    refine XS.icmpNo X0.here hx rfl (hb hby own_d6_10) rfl (teq hk1).2 ?_
    show Steps p.tables e below (s₁.setTop (mkF m 13 #[.val (.int p1)] [])) _
    refine st1 _ ?_
    show Steps p.tables e below (T1.setTop (mkF m 16 #[.val (.int p1)] [(.ref c1)])) _
    jvm_step X1.here [X1.here.top, hx, (hb hby own_d6_16), X1.method', Bd.returns, Value.isRef, FieldType.isReference]
    first | (intro acts; rw [hr _ acts rfl rfl rfl]) | rw [hr _ _ rfl rfl rfl]
    exact Steps.refl _
  · show own_P (.ref c1) h0 _ T1.heap _
    rw [e1]
    exact ⟨rfl, rfl, rfl⟩
theorem own_d6_17 : decode method_2_code 17 = .ok (.iload_n 0, 1) := by decide +kernel
theorem own_d6_18 : decode method_2_code 18 = .ok (.iconst 2, 1) := by decide +kernel
theorem own_d6_19 : decode method_2_code 19 = .ok (.if_icmp .ne 7, 3) := by decide +kernel
theorem own_d6_22 : decode method_2_code 22 = .ok (.getstatic 16, 3) := by decide +kernel
theorem own_d6_25 : decode method_2_code 25 = .ok (.areturn, 1) := by decide +kernel
set_option maxRecDepth 65536 in
set_option maxHeartbeats 40000000 in
theorem own_pick2 (l : Launch) (Z : State) (a0 : Array Value) (hw : ∀ d ∈ tables_1, d.before a0 Z = true) (ws : List Jvm.Cond) (c0 c1 c2 c3 ra : Addr) (cl : Cell) (p1 : Int32) (h0 : Heap) (n0 : Nat) (O0 : Old Z n0 h0) (K : own_W Z c0 c1 c2 c3 ra cl) (hk0 : ¬ (p1 = (0 : Int32))) (hk1 : ¬ (p1 = (1 : Int32))) (hk2 : p1 = (2 : Int32)) :
    MetFree l (⟨"com/example/doorway/doorway/checker/StateGraphAtDoorwayPinLaw", "region", "(I)Lcom/example/doorway/doorway/model/Region;"⟩ : MethodName) (head1 (Jvm.Cond.code (⟨"com/example/doorway/doorway/checker/StateGraphAtDoorwayPinLaw", "region", "(I)Lcom/example/doorway/doorway/model/Region;"⟩ : MethodName) method_2_code 1 (some (.object "com/example/doorway/doorway/model/Region")) :: ws) ({ frames := 0, cells := 0, slots := 0, locals := 0 } : Room)) (fun aa_ U_ => aa_ = #[(.int p1)] ∧ Z.Warmed39 U_.vm ∧ U_.heap = h0) (fun _ _ _ _ _ => True) (fun _ U_ oo_ UU_ => ∃ vv_ LL_, oo_ = .returned vv_ ∧ own_P (.ref c2) h0 vv_ UU_.heap LL_ ∧ FrameEnd U_ oo_ UU_ LL_ ({ frames := 0, cells := 0, slots := 0, locals := 0 } : Room).cells ({ frames := 0, cells := 0, slots := 0, locals := 0 } : Room).slots) := by
  obtain ⟨S0, S1, S2, S3, -⟩ := K
  refine MetFree.of_bodySF (plainFor_of_name own_pn2) hisR ?_
  intro p e s m args below meth c s₁ Bd hml0 hP hK
  obtain ⟨rfl, hZ, hh⟩ := hP
  have hx := Bd.exec
  have hby := Bd.bytes
  have hml : c.maxLocals = 1 := hml0
  have hown : s.vm.findClass "com/example/doorway/doorway/checker/StateGraphAtDoorwayPinLaw" = some m.cls := findClass_of_methodNamed Bd.named
  have hnm := (name_of_methodNamed Bd.named Bd.method).1
  have X0 : Stand p l e ({ frames := 0, cells := 0, slots := 0, locals := 0 } : Room) s m #[(.int p1)] below meth c s₁ [] 0 0 := Stand.of_body Bd
  have e0 : s₁.heap = h0 := by rw [← hh, Bd.state]; rfl
  have N0 := Fr.nil n0
  have pre0 : ∀ t, Steps p.tables e below (s₁.setTop (mkF m 0 #[.val (.int p1)] [])) t → Steps p.tables e below (s₁.setTop (entryFrame m #[(.int p1)] 1)) t := fun t k => castTop (own_ef6 m p1) k
  obtain ⟨T1, X1, e1, st1⟩ := getS2 X0 hx hZ hown (host := "") (Or.inl (hw _ (List.mem_of_getElem? (i := 68) rfl))) Via.refl e0 (S2.ext O0.2) (g := (mkF m 22 #[.val (.int p1)] [])) rfl (hb hby own_d6_22)
  obtain ⟨fs, hr, hrun, hended, hW, hsame⟩ := X1.leave (v := some (.ref c2)) (fun h => by rw [Bd.returns] at h; cases h)
  refine ⟨_, _, pre0 _ ?_, hrun, hended, _, _, rfl, ?_, ⟨_, rfl⟩, hW, hsame.mono (by decide) (by decide)⟩
  · show Steps p.tables e below (s₁.setTop (mkF m 0 #[.val (.int p1)] [])) _
    refine XS.iloadN X0.here hx rfl (hb hby own_d6_0) rfl ?_
    show Steps p.tables e below (s₁.setTop (mkF m 1 #[.val (.int p1)] [(.int p1)])) _
    refine XS.ifYes X0.here hx rfl (pc0 := 1) (pc' := 8) rfl (hb hby own_d6_1) rfl ((if0 _ _).trans (feq hk0).2) (by decide) (by decide) ?_
    show Steps p.tables e below (s₁.setTop (mkF m 8 #[.val (.int p1)] [])) _
    refine XS.iloadN X0.here hx rfl (hb hby own_d6_8) rfl ?_
    show Steps p.tables e below (s₁.setTop (mkF m 9 #[.val (.int p1)] [(.int p1)])) _
    refine XS.iconst X0.here hx rfl (hb hby own_d6_9) ?_
    show Steps p.tables e below (s₁.setTop (mkF m 10 #[.val (.int p1)] [(.int (1 : Int32)), (.int p1)])) _
    refine XS.icmpYes X0.here hx rfl (pc0 := 10) (pc' := 17) rfl (hb hby own_d6_10) rfl (feq hk1).2 (by decide) (by decide) ?_
    show Steps p.tables e below (s₁.setTop (mkF m 17 #[.val (.int p1)] [])) _
    refine XS.iloadN X0.here hx rfl (hb hby own_d6_17) rfl ?_
    show Steps p.tables e below (s₁.setTop (mkF m 18 #[.val (.int p1)] [(.int p1)])) _
    refine XS.iconst X0.here hx rfl (hb hby own_d6_18) ?_
    show Steps p.tables e below (s₁.setTop (mkF m 19 #[.val (.int p1)] [(.int (2 : Int32)), (.int p1)])) _
    refine XS.icmpNo X0.here hx rfl (hb hby own_d6_19) rfl (teq hk2).2 ?_
    show Steps p.tables e below (s₁.setTop (mkF m 22 #[.val (.int p1)] [])) _
    refine st1 _ ?_
    show Steps p.tables e below (T1.setTop (mkF m 25 #[.val (.int p1)] [(.ref c2)])) _
    jvm_step X1.here [X1.here.top, hx, (hb hby own_d6_25), X1.method', Bd.returns, Value.isRef, FieldType.isReference]
    first | (intro acts; rw [hr _ acts rfl rfl rfl]) | rw [hr _ _ rfl rfl rfl]
    exact Steps.refl _
  · show own_P (.ref c2) h0 _ T1.heap _
    rw [e1]
    exact ⟨rfl, rfl, rfl⟩
theorem own_d6_26 : decode method_2_code 26 = .ok (.getstatic 19, 3) := by decide +kernel
theorem own_d6_29 : decode method_2_code 29 = .ok (.areturn, 1) := by decide +kernel
set_option maxRecDepth 65536 in
set_option maxHeartbeats 40000000 in
theorem own_pick3 (l : Launch) (Z : State) (a0 : Array Value) (hw : ∀ d ∈ tables_1, d.before a0 Z = true) (ws : List Jvm.Cond) (c0 c1 c2 c3 ra : Addr) (cl : Cell) (p1 : Int32) (h0 : Heap) (n0 : Nat) (O0 : Old Z n0 h0) (K : own_W Z c0 c1 c2 c3 ra cl) (hk0 : ¬ (p1 = (0 : Int32))) (hk1 : ¬ (p1 = (1 : Int32))) (hk2 : ¬ (p1 = (2 : Int32))) :
    MetFree l (⟨"com/example/doorway/doorway/checker/StateGraphAtDoorwayPinLaw", "region", "(I)Lcom/example/doorway/doorway/model/Region;"⟩ : MethodName) (head1 (Jvm.Cond.code (⟨"com/example/doorway/doorway/checker/StateGraphAtDoorwayPinLaw", "region", "(I)Lcom/example/doorway/doorway/model/Region;"⟩ : MethodName) method_2_code 1 (some (.object "com/example/doorway/doorway/model/Region")) :: ws) ({ frames := 0, cells := 0, slots := 0, locals := 0 } : Room)) (fun aa_ U_ => aa_ = #[(.int p1)] ∧ Z.Warmed39 U_.vm ∧ U_.heap = h0) (fun _ _ _ _ _ => True) (fun _ U_ oo_ UU_ => ∃ vv_ LL_, oo_ = .returned vv_ ∧ own_P (.ref c3) h0 vv_ UU_.heap LL_ ∧ FrameEnd U_ oo_ UU_ LL_ ({ frames := 0, cells := 0, slots := 0, locals := 0 } : Room).cells ({ frames := 0, cells := 0, slots := 0, locals := 0 } : Room).slots) := by
  obtain ⟨S0, S1, S2, S3, -⟩ := K
  refine MetFree.of_bodySF (plainFor_of_name own_pn2) hisR ?_
  intro p e s m args below meth c s₁ Bd hml0 hP hK
  obtain ⟨rfl, hZ, hh⟩ := hP
  have hx := Bd.exec
  have hby := Bd.bytes
  have hml : c.maxLocals = 1 := hml0
  have hown : s.vm.findClass "com/example/doorway/doorway/checker/StateGraphAtDoorwayPinLaw" = some m.cls := findClass_of_methodNamed Bd.named
  have hnm := (name_of_methodNamed Bd.named Bd.method).1
  have X0 : Stand p l e ({ frames := 0, cells := 0, slots := 0, locals := 0 } : Room) s m #[(.int p1)] below meth c s₁ [] 0 0 := Stand.of_body Bd
  have e0 : s₁.heap = h0 := by rw [← hh, Bd.state]; rfl
  have N0 := Fr.nil n0
  have pre0 : ∀ t, Steps p.tables e below (s₁.setTop (mkF m 0 #[.val (.int p1)] [])) t → Steps p.tables e below (s₁.setTop (entryFrame m #[(.int p1)] 1)) t := fun t k => castTop (own_ef6 m p1) k
  obtain ⟨T1, X1, e1, st1⟩ := getS2 X0 hx hZ hown (host := "") (Or.inl (hw _ (List.mem_of_getElem? (i := 66) rfl))) Via.refl e0 (S3.ext O0.2) (g := (mkF m 26 #[.val (.int p1)] [])) rfl (hb hby own_d6_26)
  obtain ⟨fs, hr, hrun, hended, hW, hsame⟩ := X1.leave (v := some (.ref c3)) (fun h => by rw [Bd.returns] at h; cases h)
  refine ⟨_, _, pre0 _ ?_, hrun, hended, _, _, rfl, ?_, ⟨_, rfl⟩, hW, hsame.mono (by decide) (by decide)⟩
  · show Steps p.tables e below (s₁.setTop (mkF m 0 #[.val (.int p1)] [])) _
    refine XS.iloadN X0.here hx rfl (hb hby own_d6_0) rfl ?_
    show Steps p.tables e below (s₁.setTop (mkF m 1 #[.val (.int p1)] [(.int p1)])) _
    refine XS.ifYes X0.here hx rfl (pc0 := 1) (pc' := 8) rfl (hb hby own_d6_1) rfl ((if0 _ _).trans (feq hk0).2) (by decide) (by decide) ?_
    show Steps p.tables e below (s₁.setTop (mkF m 8 #[.val (.int p1)] [])) _
    refine XS.iloadN X0.here hx rfl (hb hby own_d6_8) rfl ?_
    show Steps p.tables e below (s₁.setTop (mkF m 9 #[.val (.int p1)] [(.int p1)])) _
    refine XS.iconst X0.here hx rfl (hb hby own_d6_9) ?_
    show Steps p.tables e below (s₁.setTop (mkF m 10 #[.val (.int p1)] [(.int (1 : Int32)), (.int p1)])) _
    refine XS.icmpYes X0.here hx rfl (pc0 := 10) (pc' := 17) rfl (hb hby own_d6_10) rfl (feq hk1).2 (by decide) (by decide) ?_
    show Steps p.tables e below (s₁.setTop (mkF m 17 #[.val (.int p1)] [])) _
    refine XS.iloadN X0.here hx rfl (hb hby own_d6_17) rfl ?_
    show Steps p.tables e below (s₁.setTop (mkF m 18 #[.val (.int p1)] [(.int p1)])) _
    refine XS.iconst X0.here hx rfl (hb hby own_d6_18) ?_
    show Steps p.tables e below (s₁.setTop (mkF m 19 #[.val (.int p1)] [(.int (2 : Int32)), (.int p1)])) _
    refine XS.icmpYes X0.here hx rfl (pc0 := 19) (pc' := 26) rfl (hb hby own_d6_19) rfl (feq hk2).2 (by decide) (by decide) ?_
    show Steps p.tables e below (s₁.setTop (mkF m 26 #[.val (.int p1)] [])) _
    refine st1 _ ?_
    show Steps p.tables e below (T1.setTop (mkF m 29 #[.val (.int p1)] [(.ref c3)])) _
    jvm_step X1.here [X1.here.top, hx, (hb hby own_d6_29), X1.method', Bd.returns, Value.isRef, FieldType.isReference]
    first | (intro acts; rw [hr _ acts rfl rfl rfl]) | rw [hr _ _ rfl rfl rfl]
    exact Steps.refl _
  · show own_P (.ref c3) h0 _ T1.heap _
    rw [e1]
    exact ⟨rfl, rfl, rfl⟩
theorem own_pick (l : Launch) (Z : State) (a0 : Array Value) (hw : ∀ d ∈ tables_1, d.before a0 Z = true) (ws : List Jvm.Cond) (c0 c1 c2 c3 ra : Addr) (cl : Cell) (p1 : Int32) (h0 : Heap) (n0 : Nat) (O0 : Old Z n0 h0) (K : own_W Z c0 c1 c2 c3 ra cl) :
    MetFree l (⟨"com/example/doorway/doorway/checker/StateGraphAtDoorwayPinLaw", "region", "(I)Lcom/example/doorway/doorway/model/Region;"⟩ : MethodName) (head1 (Jvm.Cond.code (⟨"com/example/doorway/doorway/checker/StateGraphAtDoorwayPinLaw", "region", "(I)Lcom/example/doorway/doorway/model/Region;"⟩ : MethodName) method_2_code 1 (some (.object "com/example/doorway/doorway/model/Region")) :: ws) ({ frames := 0, cells := 0, slots := 0, locals := 0 } : Room)) (fun a U => a = #[(.int p1)] ∧ Z.Warmed39 U.vm ∧ U.heap = h0) (fun _ _ _ _ _ => True) (fun _ U o U' => ∃ v L, o = .returned v ∧ own_P (.ref (own_c c0 c1 c2 c3 p1)) h0 v U'.heap L ∧ FrameEnd U o U' L ({ frames := 0, cells := 0, slots := 0, locals := 0 } : Room).cells ({ frames := 0, cells := 0, slots := 0, locals := 0 } : Room).slots) := by
  by_cases hk0 : p1 = (0 : Int32)
  · rw [show own_c c0 c1 c2 c3 p1 = c0 from by unfold own_c; rw [if_pos hk0]]; exact own_pick0 l Z a0 hw ws c0 c1 c2 c3 ra cl p1 h0 n0 O0 K hk0
  · skip
    by_cases hk1 : p1 = (1 : Int32)
    · rw [show own_c c0 c1 c2 c3 p1 = c1 from by unfold own_c; rw [if_neg hk0, if_pos hk1]]; exact own_pick1 l Z a0 hw ws c0 c1 c2 c3 ra cl p1 h0 n0 O0 K hk0 hk1
    · skip
      by_cases hk2 : p1 = (2 : Int32)
      · rw [show own_c c0 c1 c2 c3 p1 = c2 from by unfold own_c; rw [if_neg hk0, if_neg hk1, if_pos hk2]]; exact own_pick2 l Z a0 hw ws c0 c1 c2 c3 ra cl p1 h0 n0 O0 K hk0 hk1 hk2
      · skip
        rw [show own_c c0 c1 c2 c3 p1 = c3 from by unfold own_c; rw [if_neg hk0, if_neg hk1, if_neg hk2]]; exact own_pick3 l Z a0 hw ws c0 c1 c2 c3 ra cl p1 h0 n0 O0 K hk0 hk1 hk2
theorem own_cR {Z : State} {c0 c1 c2 c3 ra : Addr} {cl : Cell} {k : Int32} (K : own_W Z c0 c1 c2 c3 ra cl) (hk : k = (0 : Int32) ∨ k = (1 : Int32) ∨ k = (2 : Int32) ∨ k = (3 : Int32)) : own_R Z (own_c c0 c1 c2 c3 k) k := by
  obtain ⟨-, -, -, -, R0, R1, R2, R3⟩ := K
  rcases hk with rfl | rfl | rfl | rfl
  · exact R0
  · exact R1
  · exact R2
  · exact R3
theorem own_and3 (x : Int32) : (x &&& (3 : Int32)) = (0 : Int32) ∨ (x &&& (3 : Int32)) = (1 : Int32) ∨ (x &&& (3 : Int32)) = (2 : Int32) ∨ (x &&& (3 : Int32)) = (3 : Int32) := by
  have h := c_and x (3 : Int32) (by decide)
  have e : (3 : Int32).toInt = 3 := by decide
  have hr : (x &&& (3 : Int32)).toInt = 0 ∨ (x &&& (3 : Int32)).toInt = 1 ∨ (x &&& (3 : Int32)).toInt = 2 ∨ (x &&& (3 : Int32)).toInt = 3 := by omega
  rcases hr with q | q | q | q
  · exact Or.inl (own_i32 q)
  · exact Or.inr (Or.inl (own_i32 q))
  · exact Or.inr (Or.inr (Or.inl (own_i32 q)))
  · exact Or.inr (Or.inr (Or.inr (own_i32 q)))
theorem own_n4a {n x : Int32} (e : n = ((1 : Int32) + (x &&& (3 : Int32)))) : own_four n := by
  subst e; rcases own_and3 x with q | q | q | q <;> rw [q]
  · exact Or.inl (by decide)
  · exact Or.inr (Or.inl (by decide))
  · exact Or.inr (Or.inr (Or.inl (by decide)))
  · exact Or.inr (Or.inr (Or.inr (by decide)))
theorem own_n4b {n x : Int32} (e : n = ((x &&& (3 : Int32)) + (1 : Int32))) : own_four n := by
  subst e; rcases own_and3 x with q | q | q | q <;> rw [q]
  · exact Or.inl (by decide)
  · exact Or.inr (Or.inl (by decide))
  · exact Or.inr (Or.inr (Or.inl (by decide)))
  · exact Or.inr (Or.inr (Or.inr (by decide)))
theorem own_fr {n : Int32} (h : own_four n) : 1 ≤ n.toInt ∧ n.toInt ≤ 4 := by rcases h with rfl | rfl | rfl | rfl <;> decide
theorem own_nz {n : Int32} (h : own_four n) : n ≠ 0 := by rcases h with rfl | rfl | rfl | rfl <;> decide
/-- a process' number: a rest by n of what isn't negative -/
def own_pr (n p : Int32) : Prop := 0 ≤ p.toInt ∧ p.toInt < n.toInt
def own_st (s : Int32) : Prop := 0 ≤ s.toInt ∧ s.toInt < 1024
theorem own_rem {n x p : Int32} (h : own_four n) (hx : 0 ≤ x.toInt) (e : p = (x % n)) : own_pr n p := by
  subst e; have := own_fr h; have q := (c_iremV x n).1 hx (by omega); exact ⟨q.1, q.2.1⟩
theorem own_m31 (x : Int32) : 0 ≤ (x &&& (2147483647 : Int32)).toInt := (c_and x (2147483647 : Int32) (by decide)).1
theorem own_m15 (x : Int32) : 0 ≤ (x &&& (32767 : Int32)).toInt := (c_and x (32767 : Int32) (by decide)).1
theorem own_ush (x : Int32) : 0 ≤ ((x.toUInt32 >>> ((1 : Int32) &&& 31).toUInt32).toInt32).toInt := by
  have h := c_iushr x (1 : Int32) 1 (by decide) (by decide)
  have h2 : 0 ≤ x.toInt % 4294967296 := Int.emod_nonneg _ (by decide)
  rw [h]; simp only [Nat.pow_one]; omega
theorem own_s1 {s x : Int32} (e : s = (x &&& (1 : Int32))) : own_st s := by
  subst e
  have h := c_and x (1 : Int32) (by decide)
  have e : (1 : Int32).toInt = 1 := by decide
  exact ⟨h.1, by omega⟩
theorem own_s10 {s x : Int32} (e : s = (x &&& (1023 : Int32))) : own_st s := by
  subst e
  have h := c_and x (1023 : Int32) (by decide)
  have e : (1023 : Int32).toInt = 1023 := by decide
  exact ⟨h.1, by omega⟩
theorem own_ix {n s p : Int32} (h : own_four n) (hs : own_st s) (hp : own_pr n p) : ((s * n) + p).toInt = s.toInt * n.toInt + p.toInt ∧ n.toNatClampNeg = n.toInt.toNat := by
  obtain ⟨s1, s2⟩ := hs; obtain ⟨p1, p2⟩ := hp
  have h1 := c_imul s n; have h2 := c_iadd (s * n) p; have h3 := rng32 (s * n); have hfour := rng32 ((s * n) + p)
  refine ⟨?_, rfl⟩
  rcases h with rfl | rfl | rfl | rfl <;> simp only [show (1 : Int32).toInt = 1 from by decide, show (2 : Int32).toInt = 2 from by decide, show (3 : Int32).toInt = 3 from by decide, show (4 : Int32).toInt = 4 from by decide] at * <;> omega
theorem own_hi {n s p : Int32} (h : own_four n) (hs : own_st s) (hp : own_pr n p) : 0 ≤ ((s * n) + p).toInt ∧ ((s * n) + p).toNatClampNeg < 1024 * n.toNatClampNeg := by
  obtain ⟨e1, e2⟩ := own_ix h hs hp
  obtain ⟨s1, s2⟩ := hs; obtain ⟨p1, p2⟩ := hp
  rw [e2]; simp only [Int32.toNatClampNeg, e1]
  rcases h with rfl | rfl | rfl | rfl <;> simp only [show (1 : Int32).toInt = 1 from by decide, show (2 : Int32).toInt = 2 from by decide, show (3 : Int32).toInt = 3 from by decide, show (4 : Int32).toInt = 4 from by decide] at * <;> omega
theorem own_inj {n s p s' p' : Int32} (h : own_four n) (hs : own_st s) (hp : own_pr n p) (hs' : own_st s') (hp' : own_pr n p') (e : ((s * n) + p).toNatClampNeg = ((s' * n) + p').toNatClampNeg) : s = s' ∧ p = p' := by
  obtain ⟨e1, -⟩ := own_ix h hs hp
  obtain ⟨e2, -⟩ := own_ix h hs' hp'
  obtain ⟨s1, s2⟩ := hs; obtain ⟨p1, p2⟩ := hp; obtain ⟨s3, s4⟩ := hs'; obtain ⟨p3, p4⟩ := hp'
  simp only [Int32.toNatClampNeg, e1, e2] at e
  have : s.toInt = s'.toInt ∧ p.toInt = p'.toInt := by
    rcases h with rfl | rfl | rfl | rfl <;> simp only [show (1 : Int32).toInt = 1 from by decide, show (2 : Int32).toInt = 2 from by decide, show (3 : Int32).toInt = 3 from by decide, show (4 : Int32).toInt = 4 from by decide] at * <;> omega
  exact ⟨own_i32 this.1, own_i32 this.2⟩
theorem own_up_at (f : Nat → Int32) (i : Nat) (x : Int32) : own_up f i x i = x := if_pos rfl
theorem own_up_ne (f : Nat → Int32) {i j : Nat} (x : Int32) (h : j ≠ i) : own_up f i x j = f j := if_neg h
theorem own_vals {k p4 p5 val : Int32} (hk : k = (0 : Int32) ∨ k = (1 : Int32) ∨ k = (2 : Int32) ∨ k = (3 : Int32)) (V : own_val k p4 p5 val) : (val &&& (3 : Int32)) = k ∧ ((val &&& (4 : Int32)) = (0 : Int32) ↔ p4 = (0 : Int32)) ∧ ((val &&& (8 : Int32)) = (0 : Int32) ↔ p5 = (0 : Int32)) := by
  obtain ⟨w4, d8, h1, h2, rfl⟩ := V
  rcases h1 with ⟨a, rfl⟩ | ⟨a, rfl⟩ <;> rcases h2 with ⟨c, rfl⟩ | ⟨c, rfl⟩ <;> simp only [a, c, iff_true, iff_false] <;> rcases hk with rfl | rfl | rfl | rfl <;> decide
theorem own_pd3 : parseMethodDescriptor "(IZ)V" = some ⟨[.int, .boolean], none⟩ := by decide +kernel
theorem own_pd4 : parseMethodDescriptor "(II)V" = some ⟨[.int, .int], none⟩ := by decide +kernel
theorem own_pd5 : parseMethodDescriptor "(I)Lcom/example/doorway/doorway/model/Region;" = some ⟨[.int], some (.object "com/example/doorway/doorway/model/Region")⟩ := by decide +kernel
theorem own_pd6 : parseMethodDescriptor "(IILcom/example/doorway/doorway/model/Region;ZZI)V" = some ⟨[.int, .int, (.object "com/example/doorway/doorway/model/Region"), .boolean, .boolean, .int], none⟩ := by decide +kernel
theorem own_01 {x a : Int32} (h : (x = (0 : Int32) ∧ a = (0 : Int32)) ∨ (¬ (x = (0 : Int32)) ∧ a = (1 : Int32))) : a = (0 : Int32) ∨ a = (1 : Int32) := by rcases h with ⟨-, e⟩ | ⟨-, e⟩; exact (Or.inl e); exact (Or.inr e)
theorem own_bv {val a rb : Int32} (hv : (val &&& (8 : Int32)) = (0 : Int32) ↔ a = (0 : Int32)) (ha : a = (0 : Int32) ∨ a = (1 : Int32)) (hb : own_bit val rb) : rb = a := by
  rcases hb with ⟨q, rfl⟩ | ⟨q, rfl⟩
  · exact (hv.mp q).symm
  · rcases ha with e | e; exact (absurd (hv.mpr e) q); exact (e.symm)
theorem own_b0 {rb : Int32} (hb : own_bit (0 : Int32) rb) : rb = (0 : Int32) := by
  rcases hb with ⟨-, e⟩ | ⟨q, -⟩; exact (e); exact (absurd (by decide) q)
theorem own_f1 {fx : Nat → Int32} {n sa pa sb pb atA atB sm eA vA vB rb xA xB : Int32} (hfour : own_four n) (st1 : own_st sa) (pr1 : own_pr n pa) (st2 : own_st sb) (pr2 : own_pr n pb) (hvA : (vA &&& (8 : Int32)) = (0 : Int32) ↔ atA = (0 : Int32)) (hvB : (vB &&& (8 : Int32)) = (0 : Int32) ↔ atB = (0 : Int32)) (hA : (xA = (0 : Int32) ∧ atA = (0 : Int32)) ∨ (¬ (xA = (0 : Int32)) ∧ atA = (1 : Int32))) (hB : (xB = (0 : Int32) ∧ atB = (0 : Int32)) ∨ (¬ (xB = (0 : Int32)) ∧ atB = (1 : Int32))) (hsm : (sa = sb ∧ ((pa = pb ∧ sm = (1 : Int32)) ∨ (¬ (pa = pb) ∧ sm = (0 : Int32)))) ∨ (¬ (sa = sb) ∧ sm = (0 : Int32))) (heA : (sm = (0 : Int32) ∧ eA = atA) ∨ (¬ (sm = (0 : Int32)) ∧ eA = atB)) (hb : own_bit (own_up (own_up fx ((sa * n) + pa).toNatClampNeg vA) ((sb * n) + pb).toNatClampNeg vB ((sa * n) + pa).toNatClampNeg) rb) : rb = eA := by
  by_cases e : sa = sb ∧ pa = pb
  · obtain ⟨rfl, rfl⟩ := e
    rw [own_up_at] at hb
    have h1 : sm = (1 : Int32) := by rcases hsm with ⟨-, ⟨-, q⟩ | ⟨q, -⟩⟩ | ⟨q, -⟩; exact (q); exact (absurd rfl q); exact (absurd rfl q)
    have h2 : eA = atB := by rcases heA with ⟨q, -⟩ | ⟨-, q⟩; exact (absurd (h1.symm.trans q) (by decide)); exact (q)
    rw [h2]; exact own_bv hvB (own_01 hB) hb
  · have hne : ((sa * n) + pa).toNatClampNeg ≠ ((sb * n) + pb).toNatClampNeg := fun q => e (own_inj hfour st1 pr1 st2 pr2 q)
    rw [own_up_ne _ _ hne, own_up_at] at hb
    have h1 : sm = (0 : Int32) := by rcases hsm with ⟨a, ⟨a', q⟩ | ⟨-, q⟩⟩ | ⟨-, q⟩; exact (absurd ⟨a, a'⟩ e); exact (q); exact (q)
    have h2 : eA = atA := by rcases heA with ⟨-, q⟩ | ⟨q, -⟩; exact (q); exact (absurd h1 q)
    rw [h2]; exact own_bv hvA (own_01 hA) hb
theorem own_f2 {fx : Nat → Int32} {i : Nat} {atB vB rb xB : Int32} (hvB : (vB &&& (8 : Int32)) = (0 : Int32) ↔ atB = (0 : Int32)) (hB : (xB = (0 : Int32) ∧ atB = (0 : Int32)) ∨ (¬ (xB = (0 : Int32)) ∧ atB = (1 : Int32))) (hb : own_bit (own_up fx i vB i) rb) : rb = atB := by
  rw [own_up_at] at hb; exact own_bv hvB (own_01 hB) hb
theorem own_f3 {n sa pa sb pb sc pc atA atB eC vA vB rb xA xB : Int32} (hfour : own_four n) (st1 : own_st sa) (pr1 : own_pr n pa) (st2 : own_st sb) (pr2 : own_pr n pb) (st3 : own_st sc) (pr3 : own_pr n pc) (hvA : (vA &&& (8 : Int32)) = (0 : Int32) ↔ atA = (0 : Int32)) (hvB : (vB &&& (8 : Int32)) = (0 : Int32) ↔ atB = (0 : Int32)) (hA : (xA = (0 : Int32) ∧ atA = (0 : Int32)) ∨ (¬ (xA = (0 : Int32)) ∧ atA = (1 : Int32))) (hB : (xB = (0 : Int32) ∧ atB = (0 : Int32)) ∨ (¬ (xB = (0 : Int32)) ∧ atB = (1 : Int32))) (heC : (sc = sb ∧ ((pc = pb ∧ eC = atB) ∨ (¬ (pc = pb) ∧ ((sc = sa ∧ ((pc = pa ∧ eC = atA) ∨ (¬ (pc = pa) ∧ eC = (0 : Int32)))) ∨ (¬ (sc = sa) ∧ eC = (0 : Int32)))))) ∨ (¬ (sc = sb) ∧ ((sc = sa ∧ ((pc = pa ∧ eC = atA) ∨ (¬ (pc = pa) ∧ eC = (0 : Int32)))) ∨ (¬ (sc = sa) ∧ eC = (0 : Int32))))) (hb : own_bit (own_up (own_up (fun _ => (0 : Int32)) ((sa * n) + pa).toNatClampNeg vA) ((sb * n) + pb).toNatClampNeg vB ((sc * n) + pc).toNatClampNeg) rb) : rb = eC := by
  by_cases e : sc = sb ∧ pc = pb
  · obtain ⟨rfl, rfl⟩ := e
    rw [own_up_at] at hb
    have h2 : eC = atB := by
      rcases heC with ⟨-, ⟨-, q⟩ | ⟨q, -⟩⟩ | ⟨q, -⟩
      · exact q
      · exact absurd rfl q
      · exact absurd rfl q
    rw [h2]; exact own_bv hvB (own_01 hB) hb
  · have hne : ((sc * n) + pc).toNatClampNeg ≠ ((sb * n) + pb).toNatClampNeg := fun q => e (own_inj hfour st3 pr3 st2 pr2 q)
    rw [own_up_ne _ _ hne] at hb
    have hR : (sc = sa ∧ (pc = pa ∧ eC = atA ∨ ¬ (pc = pa) ∧ eC = (0 : Int32))) ∨ (¬ (sc = sa) ∧ eC = (0 : Int32)) := by
      rcases heC with ⟨a, ⟨a', q⟩ | ⟨-, q⟩⟩ | ⟨-, q⟩
      · exact absurd ⟨a, a'⟩ e
      · exact q
      · exact q
    by_cases e2 : sc = sa ∧ pc = pa
    · obtain ⟨rfl, rfl⟩ := e2
      rw [own_up_at] at hb
      have h2 : eC = atA := by rcases hR with ⟨-, ⟨-, q⟩ | ⟨q, -⟩⟩ | ⟨q, -⟩; exact (q); exact (absurd rfl q); exact (absurd rfl q)
      rw [h2]; exact own_bv hvA (own_01 hA) hb
    · have hne2 : ((sc * n) + pc).toNatClampNeg ≠ ((sa * n) + pa).toNatClampNeg := fun q => e2 (own_inj hfour st3 pr3 st1 pr1 q)
      rw [own_up_ne _ _ hne2] at hb
      have h2 : eC = (0 : Int32) := by rcases hR with ⟨a, ⟨a', q⟩ | ⟨-, q⟩⟩ | ⟨-, q⟩; exact (absurd ⟨a, a'⟩ e2); exact (q); exact (q)
      rw [h2]; exact own_b0 hb
theorem own_pd7 : parseMethodDescriptor "(II)Z" = some ⟨[.int, .int], some .boolean⟩ := by decide +kernel
def own_QL (n0 : Nat) (v : Option Value) (h : Heap) (L : List Loc) : Prop := v = some (.int (1 : Int32)) ∧ Fr n0 L
theorem own_ef0 (m : MethodId) (x0 : Int32) (x1 : Int32) (x2 : Int32) (x3 : Int32) (x4 : Int32) (x5 : Int32) : entryFrame m #[(.int x0), (.int x1), (.int x2), (.int x3), (.int x4), (.int x5)] maxLocals = mkF m 0 #[.val (.int x0), .val (.int x1), .val (.int x2), .val (.int x3), .val (.int x4), .val (.int x5), .unset, .unset, .unset, .unset, .unset, .unset, .unset, .unset, .unset, .unset, .unset, .unset, .unset, .unset, .unset] [] := by first | (simp [entryFrame, mkF, argsToLocals, Value.category, maxLocals]; done) | rfl
set_option maxRecDepth 65536 in
set_option maxHeartbeats 40000000 in
theorem own_law (l : Launch) (Z : State) (a0 : Array Value) (hw : ∀ d ∈ tables_1, d.before a0 Z = true) (ws : List Jvm.Cond) (c0 c1 c2 c3 ra : Addr) (cl : Cell) (p0 p1 p2 p3 p4 p5 : Int32) (h0 : Heap) (n0 : Nat) (O0 : Old Z n0 h0) (K : own_W Z c0 c1 c2 c3 ra cl) :
    MetFree l x (head1 (Jvm.Cond.code x code maxLocals ret :: ws) room_1) (fun aa_ U_ => aa_ = #[(.int p0), (.int p1), (.int p2), (.int p3), (.int p4), (.int p5)] ∧ Z.Warmed39 U_.vm ∧ U_.heap = h0) (fun _ _ _ _ _ => True) (fun _ U_ oo_ UU_ => ∃ vv_ LL_, oo_ = .returned vv_ ∧ own_QL n0 vv_ UU_.heap LL_ ∧ FrameEnd U_ oo_ UU_ LL_ room_1.cells room_1.slots) := by
  refine MetFree.of_bodySF (plainFor_of_name own_pn2) hisR ?_
  intro p e s m args below meth c s₁ Bd hml0 hP hK
  obtain ⟨rfl, hZ, hh⟩ := hP
  have hx := Bd.exec
  have hby := Bd.bytes
  have hml : c.maxLocals = 21 := hml0
  have hown : s.vm.findClass "com/example/doorway/doorway/checker/StateGraphAtDoorwayPinLaw" = some m.cls := findClass_of_methodNamed Bd.named
  have hnm := (name_of_methodNamed Bd.named Bd.method).1
  have X0 : Stand p l e room_1 s m #[(.int p0), (.int p1), (.int p2), (.int p3), (.int p4), (.int p5)] below meth c s₁ [] 0 0 := Stand.of_body Bd
  have e0 : s₁.heap = h0 := by rw [← hh, Bd.state]; rfl
  have N0 := Fr.nil n0
  have pre0 : ∀ t, Steps p.tables e below (s₁.setTop (mkF m 0 #[.val (.int p0), .val (.int p1), .val (.int p2), .val (.int p3), .val (.int p4), .val (.int p5), .unset, .unset, .unset, .unset, .unset, .unset, .unset, .unset, .unset, .unset, .unset, .unset, .unset, .unset, .unset] [])) t → Steps p.tables e below (s₁.setTop (entryFrame m #[(.int p0), (.int p1), (.int p2), (.int p3), (.int p4), (.int p5)] maxLocals)) t := fun t k => castTop (own_ef0 m p0 p1 p2 p3 p4 p5) k
  obtain ⟨n, h_n⟩ : ∃ z : Int32, z = ((p0 &&& (3 : Int32)) + (1 : Int32)) := ⟨_, rfl⟩
  have hfour : own_four n := own_n4b h_n
  obtain ⟨sa, h_sa⟩ : ∃ z : Int32, z = (p1 &&& (1 : Int32)) := ⟨_, rfl⟩
  obtain ⟨pa, h_pa⟩ : ∃ z : Int32, z = (((p1.toUInt32 >>> ((1 : Int32) &&& 31).toUInt32).toInt32) % n) := ⟨_, rfl⟩
  obtain ⟨sb, h_sb⟩ : ∃ z : Int32, z = (p2 &&& (1 : Int32)) := ⟨_, rfl⟩
  obtain ⟨pb, h_pb⟩ : ∃ z : Int32, z = (((p2.toUInt32 >>> ((1 : Int32) &&& 31).toUInt32).toInt32) % n) := ⟨_, rfl⟩
  obtain ⟨sc, h_sc⟩ : ∃ z : Int32, z = (p3 &&& (1 : Int32)) := ⟨_, rfl⟩
  obtain ⟨pc, h_pc⟩ : ∃ z : Int32, z = (((p3.toUInt32 >>> ((1 : Int32) &&& 31).toUInt32).toInt32) % n) := ⟨_, rfl⟩
  have st_sa := own_s1 h_sa
  have st_sb := own_s1 h_sb
  have st_sc := own_s1 h_sc
  have pr_pa := own_rem hfour (own_ush _) h_pa
  have pr_pb := own_rem hfour (own_ush _) h_pb
  have pr_pc := own_rem hfour (own_ush _) h_pc
  obtain ⟨T1, wA, hv1, ⟨X1, e1⟩, st1⟩ : ∃ (T' : State) (wA : Int32), ((((p0 >>> ((4 : Int32) &&& 31)) &&& (1 : Int32)) = (0 : Int32) ∧ wA = (0 : Int32)) ∨ (¬ (((p0 >>> ((4 : Int32) &&& 31)) &&& (1 : Int32)) = (0 : Int32)) ∧ wA = (1 : Int32))) ∧ own_Go X0 h0 T' ∧ ∀ target, Steps p.tables e below (T'.setTop (mkF m 59 #[.val (.int p0), .val (.int p1), .val (.int p2), .val (.int p3), .val (.int p4), .val (.int p5), .val (.int n), .val (.int sa), .val (.int pa), .val (.int sb), .val (.int pb), .val (.int sc), .val (.int pc), .unset, .unset, .unset, .unset, .unset, .unset, .unset, .unset] [(.int wA)])) target → Steps p.tables e below (s₁.setTop (mkF m 51 #[.val (.int p0), .val (.int p1), .val (.int p2), .val (.int p3), .val (.int p4), .val (.int p5), .val (.int n), .val (.int sa), .val (.int pa), .val (.int sb), .val (.int pb), .val (.int sc), .val (.int pc), .unset, .unset, .unset, .unset, .unset, .unset, .unset, .unset] [(.int ((p0 >>> ((4 : Int32) &&& 31)) &&& (1 : Int32)))])) target := by
    by_cases hf1 : ((p0 >>> ((4 : Int32) &&& 31)) &&& (1 : Int32)) = (0 : Int32)
    · refine ⟨s₁, (0 : Int32), Or.inl ⟨hf1, rfl⟩, ⟨X0, e0⟩, fun target kt => ?_⟩
      show Steps p.tables e below (s₁.setTop (mkF m 51 #[.val (.int p0), .val (.int p1), .val (.int p2), .val (.int p3), .val (.int p4), .val (.int p5), .val (.int n), .val (.int sa), .val (.int pa), .val (.int sb), .val (.int pb), .val (.int sc), .val (.int pc), .unset, .unset, .unset, .unset, .unset, .unset, .unset, .unset] [(.int ((p0 >>> ((4 : Int32) &&& 31)) &&& (1 : Int32)))])) _
      refine XS.ifYes X0.here hx rfl (pc0 := 51) (pc' := 58) rfl (hb hby at_51) rfl ((if0 _ _).trans (teq hf1).1) (by decide) (by decide) ?_
      show Steps p.tables e below (s₁.setTop (mkF m 58 #[.val (.int p0), .val (.int p1), .val (.int p2), .val (.int p3), .val (.int p4), .val (.int p5), .val (.int n), .val (.int sa), .val (.int pa), .val (.int sb), .val (.int pb), .val (.int sc), .val (.int pc), .unset, .unset, .unset, .unset, .unset, .unset, .unset, .unset] [])) _
      refine XS.iconst X0.here hx rfl (hb hby at_58) ?_
      show Steps p.tables e below (s₁.setTop (mkF m 59 #[.val (.int p0), .val (.int p1), .val (.int p2), .val (.int p3), .val (.int p4), .val (.int p5), .val (.int n), .val (.int sa), .val (.int pa), .val (.int sb), .val (.int pb), .val (.int sc), .val (.int pc), .unset, .unset, .unset, .unset, .unset, .unset, .unset, .unset] [(.int (0 : Int32))])) _
      exact kt
    · refine ⟨s₁, (1 : Int32), Or.inr ⟨hf1, rfl⟩, ⟨X0, e0⟩, fun target kt => ?_⟩
      show Steps p.tables e below (s₁.setTop (mkF m 51 #[.val (.int p0), .val (.int p1), .val (.int p2), .val (.int p3), .val (.int p4), .val (.int p5), .val (.int n), .val (.int sa), .val (.int pa), .val (.int sb), .val (.int pb), .val (.int sc), .val (.int pc), .unset, .unset, .unset, .unset, .unset, .unset, .unset, .unset] [(.int ((p0 >>> ((4 : Int32) &&& 31)) &&& (1 : Int32)))])) _
      refine XS.ifNo X0.here hx rfl (hb hby at_51) rfl ((if0 _ _).trans (feq hf1).1) ?_
      show Steps p.tables e below (s₁.setTop (mkF m 54 #[.val (.int p0), .val (.int p1), .val (.int p2), .val (.int p3), .val (.int p4), .val (.int p5), .val (.int n), .val (.int sa), .val (.int pa), .val (.int sb), .val (.int pb), .val (.int sc), .val (.int pc), .unset, .unset, .unset, .unset, .unset, .unset, .unset, .unset] [])) _
      refine XS.iconst X0.here hx rfl (hb hby at_54) ?_
      show Steps p.tables e below (s₁.setTop (mkF m 55 #[.val (.int p0), .val (.int p1), .val (.int p2), .val (.int p3), .val (.int p4), .val (.int p5), .val (.int n), .val (.int sa), .val (.int pa), .val (.int sb), .val (.int pb), .val (.int sc), .val (.int pc), .unset, .unset, .unset, .unset, .unset, .unset, .unset, .unset] [(.int (1 : Int32))])) _
      refine XS.goto X0.here hx rfl (pc0 := 55) (pc' := 59) rfl (hb hby at_55) (by decide) (by decide) ?_
      show Steps p.tables e below (s₁.setTop (mkF m 59 #[.val (.int p0), .val (.int p1), .val (.int p2), .val (.int p3), .val (.int p4), .val (.int p5), .val (.int n), .val (.int sa), .val (.int pa), .val (.int sb), .val (.int pb), .val (.int sc), .val (.int pc), .unset, .unset, .unset, .unset, .unset, .unset, .unset, .unset] [(.int (1 : Int32))])) _
      exact kt
  obtain ⟨T2, atA, hv2, ⟨X2, e2⟩, st2⟩ : ∃ (T' : State) (atA : Int32), ((((p0 >>> ((5 : Int32) &&& 31)) &&& (1 : Int32)) = (0 : Int32) ∧ atA = (0 : Int32)) ∨ (¬ (((p0 >>> ((5 : Int32) &&& 31)) &&& (1 : Int32)) = (0 : Int32)) ∧ atA = (1 : Int32))) ∧ own_Go X1 h0 T' ∧ ∀ target, Steps p.tables e below (T'.setTop (mkF m 74 #[.val (.int p0), .val (.int p1), .val (.int p2), .val (.int p3), .val (.int p4), .val (.int p5), .val (.int n), .val (.int sa), .val (.int pa), .val (.int sb), .val (.int pb), .val (.int sc), .val (.int pc), .val (.int wA), .unset, .unset, .unset, .unset, .unset, .unset, .unset] [(.int atA)])) target → Steps p.tables e below (T1.setTop (mkF m 66 #[.val (.int p0), .val (.int p1), .val (.int p2), .val (.int p3), .val (.int p4), .val (.int p5), .val (.int n), .val (.int sa), .val (.int pa), .val (.int sb), .val (.int pb), .val (.int sc), .val (.int pc), .val (.int wA), .unset, .unset, .unset, .unset, .unset, .unset, .unset] [(.int ((p0 >>> ((5 : Int32) &&& 31)) &&& (1 : Int32)))])) target := by
    by_cases hf2 : ((p0 >>> ((5 : Int32) &&& 31)) &&& (1 : Int32)) = (0 : Int32)
    · refine ⟨T1, (0 : Int32), Or.inl ⟨hf2, rfl⟩, ⟨X1, e1⟩, fun target kt => ?_⟩
      show Steps p.tables e below (T1.setTop (mkF m 66 #[.val (.int p0), .val (.int p1), .val (.int p2), .val (.int p3), .val (.int p4), .val (.int p5), .val (.int n), .val (.int sa), .val (.int pa), .val (.int sb), .val (.int pb), .val (.int sc), .val (.int pc), .val (.int wA), .unset, .unset, .unset, .unset, .unset, .unset, .unset] [(.int ((p0 >>> ((5 : Int32) &&& 31)) &&& (1 : Int32)))])) _
      refine XS.ifYes X1.here hx rfl (pc0 := 66) (pc' := 73) rfl (hb hby at_66) rfl ((if0 _ _).trans (teq hf2).1) (by decide) (by decide) ?_
      show Steps p.tables e below (T1.setTop (mkF m 73 #[.val (.int p0), .val (.int p1), .val (.int p2), .val (.int p3), .val (.int p4), .val (.int p5), .val (.int n), .val (.int sa), .val (.int pa), .val (.int sb), .val (.int pb), .val (.int sc), .val (.int pc), .val (.int wA), .unset, .unset, .unset, .unset, .unset, .unset, .unset] [])) _
      refine XS.iconst X1.here hx rfl (hb hby at_73) ?_
      show Steps p.tables e below (T1.setTop (mkF m 74 #[.val (.int p0), .val (.int p1), .val (.int p2), .val (.int p3), .val (.int p4), .val (.int p5), .val (.int n), .val (.int sa), .val (.int pa), .val (.int sb), .val (.int pb), .val (.int sc), .val (.int pc), .val (.int wA), .unset, .unset, .unset, .unset, .unset, .unset, .unset] [(.int (0 : Int32))])) _
      exact kt
    · refine ⟨T1, (1 : Int32), Or.inr ⟨hf2, rfl⟩, ⟨X1, e1⟩, fun target kt => ?_⟩
      show Steps p.tables e below (T1.setTop (mkF m 66 #[.val (.int p0), .val (.int p1), .val (.int p2), .val (.int p3), .val (.int p4), .val (.int p5), .val (.int n), .val (.int sa), .val (.int pa), .val (.int sb), .val (.int pb), .val (.int sc), .val (.int pc), .val (.int wA), .unset, .unset, .unset, .unset, .unset, .unset, .unset] [(.int ((p0 >>> ((5 : Int32) &&& 31)) &&& (1 : Int32)))])) _
      refine XS.ifNo X1.here hx rfl (hb hby at_66) rfl ((if0 _ _).trans (feq hf2).1) ?_
      show Steps p.tables e below (T1.setTop (mkF m 69 #[.val (.int p0), .val (.int p1), .val (.int p2), .val (.int p3), .val (.int p4), .val (.int p5), .val (.int n), .val (.int sa), .val (.int pa), .val (.int sb), .val (.int pb), .val (.int sc), .val (.int pc), .val (.int wA), .unset, .unset, .unset, .unset, .unset, .unset, .unset] [])) _
      refine XS.iconst X1.here hx rfl (hb hby at_69) ?_
      show Steps p.tables e below (T1.setTop (mkF m 70 #[.val (.int p0), .val (.int p1), .val (.int p2), .val (.int p3), .val (.int p4), .val (.int p5), .val (.int n), .val (.int sa), .val (.int pa), .val (.int sb), .val (.int pb), .val (.int sc), .val (.int pc), .val (.int wA), .unset, .unset, .unset, .unset, .unset, .unset, .unset] [(.int (1 : Int32))])) _
      refine XS.goto X1.here hx rfl (pc0 := 70) (pc' := 74) rfl (hb hby at_70) (by decide) (by decide) ?_
      show Steps p.tables e below (T1.setTop (mkF m 74 #[.val (.int p0), .val (.int p1), .val (.int p2), .val (.int p3), .val (.int p4), .val (.int p5), .val (.int n), .val (.int sa), .val (.int pa), .val (.int sb), .val (.int pb), .val (.int sc), .val (.int pc), .val (.int wA), .unset, .unset, .unset, .unset, .unset, .unset, .unset] [(.int (1 : Int32))])) _
      exact kt
  obtain ⟨T3, wB, hv3, ⟨X3, e3⟩, st3⟩ : ∃ (T' : State) (wB : Int32), ((((p0 >>> ((8 : Int32) &&& 31)) &&& (1 : Int32)) = (0 : Int32) ∧ wB = (0 : Int32)) ∨ (¬ (((p0 >>> ((8 : Int32) &&& 31)) &&& (1 : Int32)) = (0 : Int32)) ∧ wB = (1 : Int32))) ∧ own_Go X2 h0 T' ∧ ∀ target, Steps p.tables e below (T'.setTop (mkF m 90 #[.val (.int p0), .val (.int p1), .val (.int p2), .val (.int p3), .val (.int p4), .val (.int p5), .val (.int n), .val (.int sa), .val (.int pa), .val (.int sb), .val (.int pb), .val (.int sc), .val (.int pc), .val (.int wA), .val (.int atA), .unset, .unset, .unset, .unset, .unset, .unset] [(.int wB)])) target → Steps p.tables e below (T2.setTop (mkF m 82 #[.val (.int p0), .val (.int p1), .val (.int p2), .val (.int p3), .val (.int p4), .val (.int p5), .val (.int n), .val (.int sa), .val (.int pa), .val (.int sb), .val (.int pb), .val (.int sc), .val (.int pc), .val (.int wA), .val (.int atA), .unset, .unset, .unset, .unset, .unset, .unset] [(.int ((p0 >>> ((8 : Int32) &&& 31)) &&& (1 : Int32)))])) target := by
    by_cases hf3 : ((p0 >>> ((8 : Int32) &&& 31)) &&& (1 : Int32)) = (0 : Int32)
    · refine ⟨T2, (0 : Int32), Or.inl ⟨hf3, rfl⟩, ⟨X2, e2⟩, fun target kt => ?_⟩
      show Steps p.tables e below (T2.setTop (mkF m 82 #[.val (.int p0), .val (.int p1), .val (.int p2), .val (.int p3), .val (.int p4), .val (.int p5), .val (.int n), .val (.int sa), .val (.int pa), .val (.int sb), .val (.int pb), .val (.int sc), .val (.int pc), .val (.int wA), .val (.int atA), .unset, .unset, .unset, .unset, .unset, .unset] [(.int ((p0 >>> ((8 : Int32) &&& 31)) &&& (1 : Int32)))])) _
      refine XS.ifYes X2.here hx rfl (pc0 := 82) (pc' := 89) rfl (hb hby at_82) rfl ((if0 _ _).trans (teq hf3).1) (by decide) (by decide) ?_
      show Steps p.tables e below (T2.setTop (mkF m 89 #[.val (.int p0), .val (.int p1), .val (.int p2), .val (.int p3), .val (.int p4), .val (.int p5), .val (.int n), .val (.int sa), .val (.int pa), .val (.int sb), .val (.int pb), .val (.int sc), .val (.int pc), .val (.int wA), .val (.int atA), .unset, .unset, .unset, .unset, .unset, .unset] [])) _
      refine XS.iconst X2.here hx rfl (hb hby at_89) ?_
      show Steps p.tables e below (T2.setTop (mkF m 90 #[.val (.int p0), .val (.int p1), .val (.int p2), .val (.int p3), .val (.int p4), .val (.int p5), .val (.int n), .val (.int sa), .val (.int pa), .val (.int sb), .val (.int pb), .val (.int sc), .val (.int pc), .val (.int wA), .val (.int atA), .unset, .unset, .unset, .unset, .unset, .unset] [(.int (0 : Int32))])) _
      exact kt
    · refine ⟨T2, (1 : Int32), Or.inr ⟨hf3, rfl⟩, ⟨X2, e2⟩, fun target kt => ?_⟩
      show Steps p.tables e below (T2.setTop (mkF m 82 #[.val (.int p0), .val (.int p1), .val (.int p2), .val (.int p3), .val (.int p4), .val (.int p5), .val (.int n), .val (.int sa), .val (.int pa), .val (.int sb), .val (.int pb), .val (.int sc), .val (.int pc), .val (.int wA), .val (.int atA), .unset, .unset, .unset, .unset, .unset, .unset] [(.int ((p0 >>> ((8 : Int32) &&& 31)) &&& (1 : Int32)))])) _
      refine XS.ifNo X2.here hx rfl (hb hby at_82) rfl ((if0 _ _).trans (feq hf3).1) ?_
      show Steps p.tables e below (T2.setTop (mkF m 85 #[.val (.int p0), .val (.int p1), .val (.int p2), .val (.int p3), .val (.int p4), .val (.int p5), .val (.int n), .val (.int sa), .val (.int pa), .val (.int sb), .val (.int pb), .val (.int sc), .val (.int pc), .val (.int wA), .val (.int atA), .unset, .unset, .unset, .unset, .unset, .unset] [])) _
      refine XS.iconst X2.here hx rfl (hb hby at_85) ?_
      show Steps p.tables e below (T2.setTop (mkF m 86 #[.val (.int p0), .val (.int p1), .val (.int p2), .val (.int p3), .val (.int p4), .val (.int p5), .val (.int n), .val (.int sa), .val (.int pa), .val (.int sb), .val (.int pb), .val (.int sc), .val (.int pc), .val (.int wA), .val (.int atA), .unset, .unset, .unset, .unset, .unset, .unset] [(.int (1 : Int32))])) _
      refine XS.goto X2.here hx rfl (pc0 := 86) (pc' := 90) rfl (hb hby at_86) (by decide) (by decide) ?_
      show Steps p.tables e below (T2.setTop (mkF m 90 #[.val (.int p0), .val (.int p1), .val (.int p2), .val (.int p3), .val (.int p4), .val (.int p5), .val (.int n), .val (.int sa), .val (.int pa), .val (.int sb), .val (.int pb), .val (.int sc), .val (.int pc), .val (.int wA), .val (.int atA), .unset, .unset, .unset, .unset, .unset, .unset] [(.int (1 : Int32))])) _
      exact kt
  obtain ⟨T4, atB, hv4, ⟨X4, e4⟩, st4⟩ : ∃ (T' : State) (atB : Int32), ((((p0 >>> ((9 : Int32) &&& 31)) &&& (1 : Int32)) = (0 : Int32) ∧ atB = (0 : Int32)) ∨ (¬ (((p0 >>> ((9 : Int32) &&& 31)) &&& (1 : Int32)) = (0 : Int32)) ∧ atB = (1 : Int32))) ∧ own_Go X3 h0 T' ∧ ∀ target, Steps p.tables e below (T'.setTop (mkF m 106 #[.val (.int p0), .val (.int p1), .val (.int p2), .val (.int p3), .val (.int p4), .val (.int p5), .val (.int n), .val (.int sa), .val (.int pa), .val (.int sb), .val (.int pb), .val (.int sc), .val (.int pc), .val (.int wA), .val (.int atA), .val (.int wB), .unset, .unset, .unset, .unset, .unset] [(.int atB)])) target → Steps p.tables e below (T3.setTop (mkF m 98 #[.val (.int p0), .val (.int p1), .val (.int p2), .val (.int p3), .val (.int p4), .val (.int p5), .val (.int n), .val (.int sa), .val (.int pa), .val (.int sb), .val (.int pb), .val (.int sc), .val (.int pc), .val (.int wA), .val (.int atA), .val (.int wB), .unset, .unset, .unset, .unset, .unset] [(.int ((p0 >>> ((9 : Int32) &&& 31)) &&& (1 : Int32)))])) target := by
    by_cases hf4 : ((p0 >>> ((9 : Int32) &&& 31)) &&& (1 : Int32)) = (0 : Int32)
    · refine ⟨T3, (0 : Int32), Or.inl ⟨hf4, rfl⟩, ⟨X3, e3⟩, fun target kt => ?_⟩
      show Steps p.tables e below (T3.setTop (mkF m 98 #[.val (.int p0), .val (.int p1), .val (.int p2), .val (.int p3), .val (.int p4), .val (.int p5), .val (.int n), .val (.int sa), .val (.int pa), .val (.int sb), .val (.int pb), .val (.int sc), .val (.int pc), .val (.int wA), .val (.int atA), .val (.int wB), .unset, .unset, .unset, .unset, .unset] [(.int ((p0 >>> ((9 : Int32) &&& 31)) &&& (1 : Int32)))])) _
      refine XS.ifYes X3.here hx rfl (pc0 := 98) (pc' := 105) rfl (hb hby at_98) rfl ((if0 _ _).trans (teq hf4).1) (by decide) (by decide) ?_
      show Steps p.tables e below (T3.setTop (mkF m 105 #[.val (.int p0), .val (.int p1), .val (.int p2), .val (.int p3), .val (.int p4), .val (.int p5), .val (.int n), .val (.int sa), .val (.int pa), .val (.int sb), .val (.int pb), .val (.int sc), .val (.int pc), .val (.int wA), .val (.int atA), .val (.int wB), .unset, .unset, .unset, .unset, .unset] [])) _
      refine XS.iconst X3.here hx rfl (hb hby at_105) ?_
      show Steps p.tables e below (T3.setTop (mkF m 106 #[.val (.int p0), .val (.int p1), .val (.int p2), .val (.int p3), .val (.int p4), .val (.int p5), .val (.int n), .val (.int sa), .val (.int pa), .val (.int sb), .val (.int pb), .val (.int sc), .val (.int pc), .val (.int wA), .val (.int atA), .val (.int wB), .unset, .unset, .unset, .unset, .unset] [(.int (0 : Int32))])) _
      exact kt
    · refine ⟨T3, (1 : Int32), Or.inr ⟨hf4, rfl⟩, ⟨X3, e3⟩, fun target kt => ?_⟩
      show Steps p.tables e below (T3.setTop (mkF m 98 #[.val (.int p0), .val (.int p1), .val (.int p2), .val (.int p3), .val (.int p4), .val (.int p5), .val (.int n), .val (.int sa), .val (.int pa), .val (.int sb), .val (.int pb), .val (.int sc), .val (.int pc), .val (.int wA), .val (.int atA), .val (.int wB), .unset, .unset, .unset, .unset, .unset] [(.int ((p0 >>> ((9 : Int32) &&& 31)) &&& (1 : Int32)))])) _
      refine XS.ifNo X3.here hx rfl (hb hby at_98) rfl ((if0 _ _).trans (feq hf4).1) ?_
      show Steps p.tables e below (T3.setTop (mkF m 101 #[.val (.int p0), .val (.int p1), .val (.int p2), .val (.int p3), .val (.int p4), .val (.int p5), .val (.int n), .val (.int sa), .val (.int pa), .val (.int sb), .val (.int pb), .val (.int sc), .val (.int pc), .val (.int wA), .val (.int atA), .val (.int wB), .unset, .unset, .unset, .unset, .unset] [])) _
      refine XS.iconst X3.here hx rfl (hb hby at_101) ?_
      show Steps p.tables e below (T3.setTop (mkF m 102 #[.val (.int p0), .val (.int p1), .val (.int p2), .val (.int p3), .val (.int p4), .val (.int p5), .val (.int n), .val (.int sa), .val (.int pa), .val (.int sb), .val (.int pb), .val (.int sc), .val (.int pc), .val (.int wA), .val (.int atA), .val (.int wB), .unset, .unset, .unset, .unset, .unset] [(.int (1 : Int32))])) _
      refine XS.goto X3.here hx rfl (pc0 := 102) (pc' := 106) rfl (hb hby at_102) (by decide) (by decide) ?_
      show Steps p.tables e below (T3.setTop (mkF m 106 #[.val (.int p0), .val (.int p1), .val (.int p2), .val (.int p3), .val (.int p4), .val (.int p5), .val (.int n), .val (.int sa), .val (.int pa), .val (.int sb), .val (.int pb), .val (.int sc), .val (.int pc), .val (.int wA), .val (.int atA), .val (.int wB), .unset, .unset, .unset, .unset, .unset] [(.int (1 : Int32))])) _
      exact kt
  obtain ⟨T5, h5, X5, e5, E5, A5, D5, -, st5⟩ := newO X4 hx hZ hown (hw _ (List.mem_of_getElem? (i := 0) rfl)) (hw _ (List.mem_of_getElem? (i := 1) rfl)) (hw _ (List.mem_of_getElem? (i := 2) rfl)) e4 (g := (mkF m 108 #[.val (.int p0), .val (.int p1), .val (.int p2), .val (.int p3), .val (.int p4), .val (.int p5), .val (.int n), .val (.int sa), .val (.int pa), .val (.int sb), .val (.int pb), .val (.int sc), .val (.int pc), .val (.int wA), .val (.int atA), .val (.int wB), .val (.int atB), .unset, .unset, .unset, .unset] [])) rfl (hb hby at_108) (by decide) (by decide)
  obtain ⟨g, g5⟩ : ∃ z, z = h0.size := ⟨_, rfl⟩
  have g_g : n0 ≤ g := Nat.le_trans (Nat.le_trans (Nat.le_of_eq O0.1.symm) O0.2.1) (Nat.le_of_eq g5.symm)
  rw [← g5] at A5 D5 st5
  have O5 := O0.ext E5
  have F5_parents : Fld Z h5 g "com/example/doorway/doorway/checker/StateGraph" "parents" "[I" .null := D5 (Or.inl (hw _ (List.mem_of_getElem? (i := 11) rfl))) (ty := (.array .int)) (by decide)
  have F5_movers : Fld Z h5 g "com/example/doorway/doorway/checker/StateGraph" "movers" "[I" .null := D5 (Or.inl (hw _ (List.mem_of_getElem? (i := 13) rfl))) (ty := (.array .int)) (by decide)
  have F5_processes : Fld Z h5 g "com/example/doorway/doorway/checker/StateGraph" "processes" "I" (.int (0 : Int32)) := D5 (Or.inr (hw _ (List.mem_of_getElem? (i := 15) rfl))) (ty := .int) (by decide)
  have F5_recordsSteps : Fld Z h5 g "com/example/doorway/doorway/checker/StateGraph" "recordsSteps" "Z" (.int (0 : Int32)) := D5 (Or.inr (hw _ (List.mem_of_getElem? (i := 17) rfl))) (ty := .boolean) (by decide)
  have F5_successors : Fld Z h5 g "com/example/doorway/doorway/checker/StateGraph" "successors" "[I" .null := D5 (Or.inl (hw _ (List.mem_of_getElem? (i := 27) rfl))) (ty := (.array .int)) (by decide)
  have F5_facts : Fld Z h5 g "com/example/doorway/doorway/checker/StateGraph" "facts" "[B" .null := D5 (Or.inl (hw _ (List.mem_of_getElem? (i := 30) rfl))) (ty := (.array .byte)) (by decide)
  have F5_size : Fld Z h5 g "com/example/doorway/doorway/checker/StateGraph" "size" "I" (.int (0 : Int32)) := D5 (Or.inl (hw _ (List.mem_of_getElem? (i := 37) rfl))) (ty := .int) (by decide)
  obtain ⟨_, _, ⟨T6, L6, k6, n6⟩, -, X6, ⟨Lc6, hQ6, l6, y6, z6⟩, st6⟩ := X5.specialBack hx (y := (⟨"com/example/doorway/doorway/checker/StateGraph", "<init>", "(IZ)V"⟩ : MethodName)) rfl hown (mvT hZ (hw _ (List.mem_of_getElem? (i := 3) rfl))) (mvT hZ (hw _ (List.mem_of_getElem? (i := 4) rfl))) (mvT hZ (hw _ (List.mem_of_getElem? (i := 5) rfl))) (by decide) (backOf (W := 1) (own_init l Z a0 hw [] g n h5 n0 O5 A5 F5_parents F5_movers F5_processes F5_recordsSteps F5_successors F5_facts F5_size g_g hfour) hZ (hw _ (List.mem_of_getElem? (i := 5) rfl)) (hw _ (List.mem_of_getElem? (i := 2) rfl)) (by decide) (by decide)) (g := (mkF m 115 #[.val (.int p0), .val (.int p1), .val (.int p2), .val (.int p3), .val (.int p4), .val (.int p5), .val (.int n), .val (.int sa), .val (.int pa), .val (.int sb), .val (.int pb), .val (.int sc), .val (.int pc), .val (.int wA), .val (.int atA), .val (.int wB), .val (.int atB), .unset, .unset, .unset, .unset] [(.int (1 : Int32)), (.int n), (.ref g), (.ref g)])) rfl (by rw [hml]; rfl) (Steps.refl _) (a := g) (argsL := [(.int n), (.int (1 : Int32))]) (rest := [(.ref g)]) (lenOf own_pd3 rfl) rfl (by show 2 * 0 + _ ≤ _; exact Nat.le_of_eq rfl) (hb hby at_115) (fun _ _ => ⟨rfl, e5, (by decide : 1 + 4 ≤ _), (by decide : 7 + 10240 ≤ _)⟩)
  dsimp only [Pt.U, Pt.locs, Pt.cells, Pt.slots] at X6 l6 y6 z6 st6 hQ6
  subst l6 y6 z6
  obtain ⟨rfl, N6q, O6, P, M, S, F, G6⟩ := hQ6
  have N6 := Fr.app N0 N6q
  obtain ⟨cq7, kq7, q7a, q7b, q7c⟩ := isOf hZ rfl G6.1
  obtain ⟨_, _, ⟨T7, L7, k7, n7⟩, -, X7, ⟨Lc7, hQ7, l7, y7, z7⟩, st7⟩ := X6.virtualBack hx (y := (⟨"com/example/doorway/doorway/checker/StateGraph", "add", "(II)V"⟩ : MethodName)) (z := (⟨"com/example/doorway/doorway/checker/StateGraph", "add", "(II)V"⟩ : MethodName)) hown (mvT hZ (hw _ (List.mem_of_getElem? (i := 31) rfl))) (mvT hZ (hw _ (List.mem_of_getElem? (i := 32) rfl))) (notFace_of_selects (args := #[]) (mvT hZ (hw _ (List.mem_of_getElem? (i := 34) rfl)))) (mvT hZ (hw _ (List.mem_of_getElem? (i := 34) rfl))) (mvT hZ (hw _ (List.mem_of_getElem? (i := 33) rfl))) (by decide) (backOf (W := 0) (own_add l Z a0 hw [] g P M S F n (0 : Int32) (fun _ => (0 : Int32)) (-1 : Int32) (-1 : Int32) T6.heap n0 O6 G6 (by decide) (by decide)) hZ (hw _ (List.mem_of_getElem? (i := 35) rfl)) (hw _ (List.mem_of_getElem? (i := 2) rfl)) (by decide) (by decide)) q7a q7c (g := (mkF m 124 #[.val (.int p0), .val (.int p1), .val (.int p2), .val (.int p3), .val (.int p4), .val (.int p5), .val (.int n), .val (.int sa), .val (.int pa), .val (.int sb), .val (.int pb), .val (.int sc), .val (.int pc), .val (.int wA), .val (.int atA), .val (.int wB), .val (.int atB), .val (.ref g), .unset, .unset, .unset] [(.int (-1 : Int32)), (.int (-1 : Int32)), (.ref g)])) rfl (by rw [hml]; rfl) (Steps.refl _) (argsL := [(.int (-1 : Int32)), (.int (-1 : Int32))]) (rest := []) (lenOf own_pd4 rfl) rfl (by show 2 * 0 + _ ≤ _; exact Nat.le_of_eq rfl) (hb hby at_124) (fun _ _ => ⟨rfl, rfl, (by decide : 5 + 0 ≤ _), (by decide : 10247 + 0 ≤ _)⟩)
  dsimp only [Pt.U, Pt.locs, Pt.cells, Pt.slots] at X7 l7 y7 z7 st7 hQ7
  subst l7 y7 z7
  obtain ⟨rfl, N7q, O7, G7⟩ := hQ7
  have N7 := Fr.app N6 N7q
  obtain ⟨cq8, kq8, q8a, q8b, q8c⟩ := isOf hZ rfl G7.1
  obtain ⟨_, _, ⟨T8, L8, k8, n8⟩, -, X8, ⟨Lc8, hQ8, l8, y8, z8⟩, st8⟩ := X7.virtualBack hx (y := (⟨"com/example/doorway/doorway/checker/StateGraph", "add", "(II)V"⟩ : MethodName)) (z := (⟨"com/example/doorway/doorway/checker/StateGraph", "add", "(II)V"⟩ : MethodName)) hown (mvT hZ (hw _ (List.mem_of_getElem? (i := 31) rfl))) (mvT hZ (hw _ (List.mem_of_getElem? (i := 32) rfl))) (notFace_of_selects (args := #[]) (mvT hZ (hw _ (List.mem_of_getElem? (i := 34) rfl)))) (mvT hZ (hw _ (List.mem_of_getElem? (i := 34) rfl))) (mvT hZ (hw _ (List.mem_of_getElem? (i := 33) rfl))) (by decide) (backOf (W := 0) (own_add l Z a0 hw [] g P M S F n ((0 : Int32) + (1 : Int32)) (fun _ => (0 : Int32)) (0 : Int32) (0 : Int32) T7.heap n0 O7 G7 (by decide) (by decide)) hZ (hw _ (List.mem_of_getElem? (i := 35) rfl)) (hw _ (List.mem_of_getElem? (i := 2) rfl)) (by decide) (by decide)) q8a q8c (g := (mkF m 131 #[.val (.int p0), .val (.int p1), .val (.int p2), .val (.int p3), .val (.int p4), .val (.int p5), .val (.int n), .val (.int sa), .val (.int pa), .val (.int sb), .val (.int pb), .val (.int sc), .val (.int pc), .val (.int wA), .val (.int atA), .val (.int wB), .val (.int atB), .val (.ref g), .unset, .unset, .unset] [(.int (0 : Int32)), (.int (0 : Int32)), (.ref g)])) rfl (by rw [hml]; rfl) (Steps.refl _) (argsL := [(.int (0 : Int32)), (.int (0 : Int32))]) (rest := []) (lenOf own_pd4 rfl) rfl (by show 2 * 0 + _ ≤ _; exact Nat.le_of_eq rfl) (hb hby at_131) (fun _ _ => ⟨rfl, rfl, (by decide : 5 + 0 ≤ _), (by decide : 10247 + 0 ≤ _)⟩)
  dsimp only [Pt.U, Pt.locs, Pt.cells, Pt.slots] at X8 l8 y8 z8 st8 hQ8
  subst l8 y8 z8
  obtain ⟨rfl, N8q, O8, G8⟩ := hQ8
  have N8 := Fr.app N7 N8q
  obtain ⟨_, _, ⟨T9, L9, k9, n9⟩, -, X9, ⟨Lc9, hQ9, l9, y9, z9⟩, st9⟩ := Jvm.LawKit.callS X8 hx (y := (⟨"com/example/doorway/doorway/checker/StateGraphAtDoorwayPinLaw", "region", "(I)Lcom/example/doorway/doorway/model/Region;"⟩ : MethodName)) hown (mvT hZ (hw _ (List.mem_of_getElem? (i := 38) rfl))) (mvT hZ (hw _ (List.mem_of_getElem? (i := 39) rfl))) (mvT hZ (hw _ (List.mem_of_getElem? (i := 40) rfl))) (mvT hZ (hw _ (List.mem_of_getElem? (i := 41) rfl))) (by decide) (backOf (W := 3) (own_pick l Z a0 hw [] c0 c1 c2 c3 ra cl ((p0 >>> ((2 : Int32) &&& 31)) &&& (3 : Int32)) T8.heap n0 O8 K) hZ (hw _ (List.mem_of_getElem? (i := 41) rfl)) (hw _ (List.mem_of_getElem? (i := 40) rfl)) (by decide) (by decide)) (g := (mkF m 145 #[.val (.int p0), .val (.int p1), .val (.int p2), .val (.int p3), .val (.int p4), .val (.int p5), .val (.int n), .val (.int sa), .val (.int pa), .val (.int sb), .val (.int pb), .val (.int sc), .val (.int pc), .val (.int wA), .val (.int atA), .val (.int wB), .val (.int atB), .val (.ref g), .unset, .unset, .unset] [(.int ((p0 >>> ((2 : Int32) &&& 31)) &&& (3 : Int32))), (.int pa), (.int sa), (.ref g)])) rfl (by rw [hml]; rfl) (argsL := [(.int ((p0 >>> ((2 : Int32) &&& 31)) &&& (3 : Int32)))]) (rest := [(.int pa), (.int sa), (.ref g)]) (lenOf own_pd5 rfl) rfl (by show 2 * 0 + _ ≤ _; exact Nat.le_of_eq rfl) (hb hby at_145) (fun _ _ => ⟨rfl, rfl, (by decide : 5 + 0 ≤ _), (by decide : 10247 + 0 ≤ _)⟩)
  dsimp only [Pt.U, Pt.locs, Pt.cells, Pt.slots] at X9 l9 y9 z9 st9 hQ9
  subst l9 y9 z9
  obtain ⟨rfl, rfl, e9⟩ := hQ9
  try rw [List.append_nil] at X9
  have rr0 := own_cR K (own_and3 (p0 >>> ((2 : Int32) &&& 31)))
  have hi0 := own_hi hfour st_sa pr_pa
  obtain ⟨cq10, kq10, q10a, q10b, q10c⟩ := isOf hZ e9 G8.1
  obtain ⟨_, _, ⟨T10, L10, k10, n10⟩, -, X10, ⟨Lc10, hQ10, l10, y10, z10⟩, st10⟩ := X9.virtualBack hx (y := (⟨"com/example/doorway/doorway/checker/StateGraph", "step", "(IILcom/example/doorway/doorway/model/Region;ZZI)V"⟩ : MethodName)) (z := (⟨"com/example/doorway/doorway/checker/StateGraph", "step", "(IILcom/example/doorway/doorway/model/Region;ZZI)V"⟩ : MethodName)) hown (mvT hZ (hw _ (List.mem_of_getElem? (i := 45) rfl))) (mvT hZ (hw _ (List.mem_of_getElem? (i := 46) rfl))) (notFace_of_selects (args := #[]) (mvT hZ (hw _ (List.mem_of_getElem? (i := 48) rfl)))) (mvT hZ (hw _ (List.mem_of_getElem? (i := 48) rfl))) (mvT hZ (hw _ (List.mem_of_getElem? (i := 47) rfl))) (by decide) (backOf (W := 0) (own_step l Z a0 hw [] g P M S F n (((0 : Int32) + (1 : Int32)) + (1 : Int32)) (fun _ => (0 : Int32)) (own_c c0 c1 c2 c3 ((p0 >>> ((2 : Int32) &&& 31)) &&& (3 : Int32))) ((p0 >>> ((2 : Int32) &&& 31)) &&& (3 : Int32)) sa pa wA atA p4 T8.heap n0 O8 G8 rr0.1 rr0.2 hi0) hZ (hw _ (List.mem_of_getElem? (i := 49) rfl)) (hw _ (List.mem_of_getElem? (i := 2) rfl)) (by decide) (by decide)) q10a q10c (g := (mkF m 154 #[.val (.int p0), .val (.int p1), .val (.int p2), .val (.int p3), .val (.int p4), .val (.int p5), .val (.int n), .val (.int sa), .val (.int pa), .val (.int sb), .val (.int pb), .val (.int sc), .val (.int pc), .val (.int wA), .val (.int atA), .val (.int wB), .val (.int atB), .val (.ref g), .unset, .unset, .unset] [(.int p4), (.int atA), (.int wA), (.ref (own_c c0 c1 c2 c3 ((p0 >>> ((2 : Int32) &&& 31)) &&& (3 : Int32)))), (.int pa), (.int sa), (.ref g)])) rfl (by rw [hml]; rfl) (Steps.refl _) (argsL := [(.int sa), (.int pa), (.ref (own_c c0 c1 c2 c3 ((p0 >>> ((2 : Int32) &&& 31)) &&& (3 : Int32)))), (.int wA), (.int atA), (.int p4)]) (rest := []) (lenOf own_pd6 rfl) rfl (by show 2 * 0 + _ ≤ _; exact Nat.le_of_eq rfl) (hb hby at_154) (fun _ _ => ⟨rfl, e9, (by decide : 5 + 0 ≤ _), (by decide : 10247 + 0 ≤ _)⟩)
  dsimp only [Pt.U, Pt.locs, Pt.cells, Pt.slots] at X10 l10 y10 z10 st10 hQ10
  subst l10 y10 z10
  obtain ⟨rfl, N10q, O10, val10, hval10, G10⟩ := hQ10
  have N10 := Fr.app N8 N10q
  obtain ⟨_, _, ⟨T11, L11, k11, n11⟩, -, X11, ⟨Lc11, hQ11, l11, y11, z11⟩, st11⟩ := Jvm.LawKit.callS X10 hx (y := (⟨"com/example/doorway/doorway/checker/StateGraphAtDoorwayPinLaw", "region", "(I)Lcom/example/doorway/doorway/model/Region;"⟩ : MethodName)) hown (mvT hZ (hw _ (List.mem_of_getElem? (i := 38) rfl))) (mvT hZ (hw _ (List.mem_of_getElem? (i := 39) rfl))) (mvT hZ (hw _ (List.mem_of_getElem? (i := 40) rfl))) (mvT hZ (hw _ (List.mem_of_getElem? (i := 41) rfl))) (by decide) (backOf (W := 3) (own_pick l Z a0 hw [] c0 c1 c2 c3 ra cl ((p0 >>> ((6 : Int32) &&& 31)) &&& (3 : Int32)) T10.heap n0 O10 K) hZ (hw _ (List.mem_of_getElem? (i := 41) rfl)) (hw _ (List.mem_of_getElem? (i := 40) rfl)) (by decide) (by decide)) (g := (mkF m 169 #[.val (.int p0), .val (.int p1), .val (.int p2), .val (.int p3), .val (.int p4), .val (.int p5), .val (.int n), .val (.int sa), .val (.int pa), .val (.int sb), .val (.int pb), .val (.int sc), .val (.int pc), .val (.int wA), .val (.int atA), .val (.int wB), .val (.int atB), .val (.ref g), .unset, .unset, .unset] [(.int ((p0 >>> ((6 : Int32) &&& 31)) &&& (3 : Int32))), (.int pb), (.int sb), (.ref g)])) rfl (by rw [hml]; rfl) (argsL := [(.int ((p0 >>> ((6 : Int32) &&& 31)) &&& (3 : Int32)))]) (rest := [(.int pb), (.int sb), (.ref g)]) (lenOf own_pd5 rfl) rfl (by show 2 * 0 + _ ≤ _; exact Nat.le_of_eq rfl) (hb hby at_169) (fun _ _ => ⟨rfl, rfl, (by decide : 5 + 0 ≤ _), (by decide : 10247 + 0 ≤ _)⟩)
  dsimp only [Pt.U, Pt.locs, Pt.cells, Pt.slots] at X11 l11 y11 z11 st11 hQ11
  subst l11 y11 z11
  obtain ⟨rfl, rfl, e11⟩ := hQ11
  try rw [List.append_nil] at X11
  have rr1 := own_cR K (own_and3 (p0 >>> ((6 : Int32) &&& 31)))
  have hi1 := own_hi hfour st_sb pr_pb
  obtain ⟨cq12, kq12, q12a, q12b, q12c⟩ := isOf hZ e11 G10.1
  obtain ⟨_, _, ⟨T12, L12, k12, n12⟩, -, X12, ⟨Lc12, hQ12, l12, y12, z12⟩, st12⟩ := X11.virtualBack hx (y := (⟨"com/example/doorway/doorway/checker/StateGraph", "step", "(IILcom/example/doorway/doorway/model/Region;ZZI)V"⟩ : MethodName)) (z := (⟨"com/example/doorway/doorway/checker/StateGraph", "step", "(IILcom/example/doorway/doorway/model/Region;ZZI)V"⟩ : MethodName)) hown (mvT hZ (hw _ (List.mem_of_getElem? (i := 45) rfl))) (mvT hZ (hw _ (List.mem_of_getElem? (i := 46) rfl))) (notFace_of_selects (args := #[]) (mvT hZ (hw _ (List.mem_of_getElem? (i := 48) rfl)))) (mvT hZ (hw _ (List.mem_of_getElem? (i := 48) rfl))) (mvT hZ (hw _ (List.mem_of_getElem? (i := 47) rfl))) (by decide) (backOf (W := 0) (own_step l Z a0 hw [] g P M S F n (((0 : Int32) + (1 : Int32)) + (1 : Int32)) (own_up (fun _ => (0 : Int32)) ((sa * n) + pa).toNatClampNeg val10) (own_c c0 c1 c2 c3 ((p0 >>> ((6 : Int32) &&& 31)) &&& (3 : Int32))) ((p0 >>> ((6 : Int32) &&& 31)) &&& (3 : Int32)) sb pb wB atB p5 T10.heap n0 O10 G10 rr1.1 rr1.2 hi1) hZ (hw _ (List.mem_of_getElem? (i := 49) rfl)) (hw _ (List.mem_of_getElem? (i := 2) rfl)) (by decide) (by decide)) q12a q12c (g := (mkF m 178 #[.val (.int p0), .val (.int p1), .val (.int p2), .val (.int p3), .val (.int p4), .val (.int p5), .val (.int n), .val (.int sa), .val (.int pa), .val (.int sb), .val (.int pb), .val (.int sc), .val (.int pc), .val (.int wA), .val (.int atA), .val (.int wB), .val (.int atB), .val (.ref g), .unset, .unset, .unset] [(.int p5), (.int atB), (.int wB), (.ref (own_c c0 c1 c2 c3 ((p0 >>> ((6 : Int32) &&& 31)) &&& (3 : Int32)))), (.int pb), (.int sb), (.ref g)])) rfl (by rw [hml]; rfl) (Steps.refl _) (argsL := [(.int sb), (.int pb), (.ref (own_c c0 c1 c2 c3 ((p0 >>> ((6 : Int32) &&& 31)) &&& (3 : Int32)))), (.int wB), (.int atB), (.int p5)]) (rest := []) (lenOf own_pd6 rfl) rfl (by show 2 * 0 + _ ≤ _; exact Nat.le_of_eq rfl) (hb hby at_178) (fun _ _ => ⟨rfl, e11, (by decide : 5 + 0 ≤ _), (by decide : 10247 + 0 ≤ _)⟩)
  dsimp only [Pt.U, Pt.locs, Pt.cells, Pt.slots] at X12 l12 y12 z12 st12 hQ12
  subst l12 y12 z12
  obtain ⟨rfl, N12q, O12, val12, hval12, G12⟩ := hQ12
  have N12 := Fr.app N10 N12q
  obtain ⟨T13, sm, hv13, ⟨X13, e13⟩, st13⟩ : ∃ (T' : State) (sm : Int32), ((sa = sb ∧ ((pa = pb ∧ sm = (1 : Int32)) ∨ (¬ (pa = pb) ∧ sm = (0 : Int32)))) ∨ (¬ (sa = sb) ∧ sm = (0 : Int32))) ∧ own_Go X12 T12.heap T' ∧ ∀ target, Steps p.tables e below (T'.setTop (mkF m 200 #[.val (.int p0), .val (.int p1), .val (.int p2), .val (.int p3), .val (.int p4), .val (.int p5), .val (.int n), .val (.int sa), .val (.int pa), .val (.int sb), .val (.int pb), .val (.int sc), .val (.int pc), .val (.int wA), .val (.int atA), .val (.int wB), .val (.int atB), .val (.ref g), .unset, .unset, .unset] [(.int sm)])) target → Steps p.tables e below (T12.setTop (mkF m 185 #[.val (.int p0), .val (.int p1), .val (.int p2), .val (.int p3), .val (.int p4), .val (.int p5), .val (.int n), .val (.int sa), .val (.int pa), .val (.int sb), .val (.int pb), .val (.int sc), .val (.int pc), .val (.int wA), .val (.int atA), .val (.int wB), .val (.int atB), .val (.ref g), .unset, .unset, .unset] [(.int sb), (.int sa)])) target := by
    by_cases hf13 : sa = sb
    · obtain ⟨T14, w14_0, hv14, ⟨X14, e14⟩, st14⟩ : ∃ (T' : State) (w14_0 : Int32), ((pa = pb ∧ w14_0 = (1 : Int32)) ∨ (¬ (pa = pb) ∧ w14_0 = (0 : Int32))) ∧ own_Go X12 T12.heap T' ∧ ∀ target, Steps p.tables e below (T'.setTop (mkF m 200 #[.val (.int p0), .val (.int p1), .val (.int p2), .val (.int p3), .val (.int p4), .val (.int p5), .val (.int n), .val (.int sa), .val (.int pa), .val (.int sb), .val (.int pb), .val (.int sc), .val (.int pc), .val (.int wA), .val (.int atA), .val (.int wB), .val (.int atB), .val (.ref g), .unset, .unset, .unset] [(.int w14_0)])) target → Steps p.tables e below (T12.setTop (mkF m 192 #[.val (.int p0), .val (.int p1), .val (.int p2), .val (.int p3), .val (.int p4), .val (.int p5), .val (.int n), .val (.int sa), .val (.int pa), .val (.int sb), .val (.int pb), .val (.int sc), .val (.int pc), .val (.int wA), .val (.int atA), .val (.int wB), .val (.int atB), .val (.ref g), .unset, .unset, .unset] [(.int pb), (.int pa)])) target := by
        by_cases hf14 : pa = pb
        · refine ⟨T12, (1 : Int32), Or.inl ⟨hf14, rfl⟩, ⟨X12, rfl⟩, fun target kt => ?_⟩
          show Steps p.tables e below (T12.setTop (mkF m 192 #[.val (.int p0), .val (.int p1), .val (.int p2), .val (.int p3), .val (.int p4), .val (.int p5), .val (.int n), .val (.int sa), .val (.int pa), .val (.int sb), .val (.int pb), .val (.int sc), .val (.int pc), .val (.int wA), .val (.int atA), .val (.int wB), .val (.int atB), .val (.ref g), .unset, .unset, .unset] [(.int pb), (.int pa)])) _
          refine XS.icmpNo X12.here hx rfl (hb hby at_192) rfl (teq hf14).2 ?_
          show Steps p.tables e below (T12.setTop (mkF m 195 #[.val (.int p0), .val (.int p1), .val (.int p2), .val (.int p3), .val (.int p4), .val (.int p5), .val (.int n), .val (.int sa), .val (.int pa), .val (.int sb), .val (.int pb), .val (.int sc), .val (.int pc), .val (.int wA), .val (.int atA), .val (.int wB), .val (.int atB), .val (.ref g), .unset, .unset, .unset] [])) _
          refine XS.iconst X12.here hx rfl (hb hby at_195) ?_
          show Steps p.tables e below (T12.setTop (mkF m 196 #[.val (.int p0), .val (.int p1), .val (.int p2), .val (.int p3), .val (.int p4), .val (.int p5), .val (.int n), .val (.int sa), .val (.int pa), .val (.int sb), .val (.int pb), .val (.int sc), .val (.int pc), .val (.int wA), .val (.int atA), .val (.int wB), .val (.int atB), .val (.ref g), .unset, .unset, .unset] [(.int (1 : Int32))])) _
          refine XS.goto X12.here hx rfl (pc0 := 196) (pc' := 200) rfl (hb hby at_196) (by decide) (by decide) ?_
          show Steps p.tables e below (T12.setTop (mkF m 200 #[.val (.int p0), .val (.int p1), .val (.int p2), .val (.int p3), .val (.int p4), .val (.int p5), .val (.int n), .val (.int sa), .val (.int pa), .val (.int sb), .val (.int pb), .val (.int sc), .val (.int pc), .val (.int wA), .val (.int atA), .val (.int wB), .val (.int atB), .val (.ref g), .unset, .unset, .unset] [(.int (1 : Int32))])) _
          exact kt
        · refine ⟨T12, (0 : Int32), Or.inr ⟨hf14, rfl⟩, ⟨X12, rfl⟩, fun target kt => ?_⟩
          show Steps p.tables e below (T12.setTop (mkF m 192 #[.val (.int p0), .val (.int p1), .val (.int p2), .val (.int p3), .val (.int p4), .val (.int p5), .val (.int n), .val (.int sa), .val (.int pa), .val (.int sb), .val (.int pb), .val (.int sc), .val (.int pc), .val (.int wA), .val (.int atA), .val (.int wB), .val (.int atB), .val (.ref g), .unset, .unset, .unset] [(.int pb), (.int pa)])) _
          refine XS.icmpYes X12.here hx rfl (pc0 := 192) (pc' := 199) rfl (hb hby at_192) rfl (feq hf14).2 (by decide) (by decide) ?_
          show Steps p.tables e below (T12.setTop (mkF m 199 #[.val (.int p0), .val (.int p1), .val (.int p2), .val (.int p3), .val (.int p4), .val (.int p5), .val (.int n), .val (.int sa), .val (.int pa), .val (.int sb), .val (.int pb), .val (.int sc), .val (.int pc), .val (.int wA), .val (.int atA), .val (.int wB), .val (.int atB), .val (.ref g), .unset, .unset, .unset] [])) _
          refine XS.iconst X12.here hx rfl (hb hby at_199) ?_
          show Steps p.tables e below (T12.setTop (mkF m 200 #[.val (.int p0), .val (.int p1), .val (.int p2), .val (.int p3), .val (.int p4), .val (.int p5), .val (.int n), .val (.int sa), .val (.int pa), .val (.int sb), .val (.int pb), .val (.int sc), .val (.int pc), .val (.int wA), .val (.int atA), .val (.int wB), .val (.int atB), .val (.ref g), .unset, .unset, .unset] [(.int (0 : Int32))])) _
          exact kt
      refine ⟨T14, w14_0, Or.inl ⟨hf13, hv14⟩, ⟨X14, e14⟩, fun target kt => ?_⟩
      show Steps p.tables e below (T12.setTop (mkF m 185 #[.val (.int p0), .val (.int p1), .val (.int p2), .val (.int p3), .val (.int p4), .val (.int p5), .val (.int n), .val (.int sa), .val (.int pa), .val (.int sb), .val (.int pb), .val (.int sc), .val (.int pc), .val (.int wA), .val (.int atA), .val (.int wB), .val (.int atB), .val (.ref g), .unset, .unset, .unset] [(.int sb), (.int sa)])) _
      refine XS.icmpNo X12.here hx rfl (hb hby at_185) rfl (teq hf13).2 ?_
      show Steps p.tables e below (T12.setTop (mkF m 188 #[.val (.int p0), .val (.int p1), .val (.int p2), .val (.int p3), .val (.int p4), .val (.int p5), .val (.int n), .val (.int sa), .val (.int pa), .val (.int sb), .val (.int pb), .val (.int sc), .val (.int pc), .val (.int wA), .val (.int atA), .val (.int wB), .val (.int atB), .val (.ref g), .unset, .unset, .unset] [])) _
      refine XS.iload X12.here hx rfl (hb hby at_188) rfl ?_
      show Steps p.tables e below (T12.setTop (mkF m 190 #[.val (.int p0), .val (.int p1), .val (.int p2), .val (.int p3), .val (.int p4), .val (.int p5), .val (.int n), .val (.int sa), .val (.int pa), .val (.int sb), .val (.int pb), .val (.int sc), .val (.int pc), .val (.int wA), .val (.int atA), .val (.int wB), .val (.int atB), .val (.ref g), .unset, .unset, .unset] [(.int pa)])) _
      refine XS.iload X12.here hx rfl (hb hby at_190) rfl ?_
      refine st14 _ ?_
      show Steps p.tables e below (T14.setTop (mkF m 200 #[.val (.int p0), .val (.int p1), .val (.int p2), .val (.int p3), .val (.int p4), .val (.int p5), .val (.int n), .val (.int sa), .val (.int pa), .val (.int sb), .val (.int pb), .val (.int sc), .val (.int pc), .val (.int wA), .val (.int atA), .val (.int wB), .val (.int atB), .val (.ref g), .unset, .unset, .unset] [(.int w14_0)])) _
      exact kt
    · refine ⟨T12, (0 : Int32), Or.inr ⟨hf13, rfl⟩, ⟨X12, rfl⟩, fun target kt => ?_⟩
      show Steps p.tables e below (T12.setTop (mkF m 185 #[.val (.int p0), .val (.int p1), .val (.int p2), .val (.int p3), .val (.int p4), .val (.int p5), .val (.int n), .val (.int sa), .val (.int pa), .val (.int sb), .val (.int pb), .val (.int sc), .val (.int pc), .val (.int wA), .val (.int atA), .val (.int wB), .val (.int atB), .val (.ref g), .unset, .unset, .unset] [(.int sb), (.int sa)])) _
      refine XS.icmpYes X12.here hx rfl (pc0 := 185) (pc' := 199) rfl (hb hby at_185) rfl (feq hf13).2 (by decide) (by decide) ?_
      show Steps p.tables e below (T12.setTop (mkF m 199 #[.val (.int p0), .val (.int p1), .val (.int p2), .val (.int p3), .val (.int p4), .val (.int p5), .val (.int n), .val (.int sa), .val (.int pa), .val (.int sb), .val (.int pb), .val (.int sc), .val (.int pc), .val (.int wA), .val (.int atA), .val (.int wB), .val (.int atB), .val (.ref g), .unset, .unset, .unset] [])) _
      refine XS.iconst X12.here hx rfl (hb hby at_199) ?_
      show Steps p.tables e below (T12.setTop (mkF m 200 #[.val (.int p0), .val (.int p1), .val (.int p2), .val (.int p3), .val (.int p4), .val (.int p5), .val (.int n), .val (.int sa), .val (.int pa), .val (.int sb), .val (.int pb), .val (.int sc), .val (.int pc), .val (.int wA), .val (.int atA), .val (.int wB), .val (.int atB), .val (.ref g), .unset, .unset, .unset] [(.int (0 : Int32))])) _
      exact kt
  obtain ⟨T15, eA, hv15, ⟨X15, e15⟩, st15⟩ : ∃ (T' : State) (eA : Int32), ((sm = (0 : Int32) ∧ eA = atA) ∨ (¬ (sm = (0 : Int32)) ∧ eA = atB)) ∧ own_Go X13 T12.heap T' ∧ ∀ target, Steps p.tables e below (T'.setTop (mkF m 214 #[.val (.int p0), .val (.int p1), .val (.int p2), .val (.int p3), .val (.int p4), .val (.int p5), .val (.int n), .val (.int sa), .val (.int pa), .val (.int sb), .val (.int pb), .val (.int sc), .val (.int pc), .val (.int wA), .val (.int atA), .val (.int wB), .val (.int atB), .val (.ref g), .val (.int sm), .unset, .unset] [(.int eA)])) target → Steps p.tables e below (T13.setTop (mkF m 204 #[.val (.int p0), .val (.int p1), .val (.int p2), .val (.int p3), .val (.int p4), .val (.int p5), .val (.int n), .val (.int sa), .val (.int pa), .val (.int sb), .val (.int pb), .val (.int sc), .val (.int pc), .val (.int wA), .val (.int atA), .val (.int wB), .val (.int atB), .val (.ref g), .val (.int sm), .unset, .unset] [(.int sm)])) target := by
    by_cases hf15 : sm = (0 : Int32)
    · refine ⟨T13, atA, Or.inl ⟨hf15, rfl⟩, ⟨X13, e13⟩, fun target kt => ?_⟩
      show Steps p.tables e below (T13.setTop (mkF m 204 #[.val (.int p0), .val (.int p1), .val (.int p2), .val (.int p3), .val (.int p4), .val (.int p5), .val (.int n), .val (.int sa), .val (.int pa), .val (.int sb), .val (.int pb), .val (.int sc), .val (.int pc), .val (.int wA), .val (.int atA), .val (.int wB), .val (.int atB), .val (.ref g), .val (.int sm), .unset, .unset] [(.int sm)])) _
      refine XS.ifYes X13.here hx rfl (pc0 := 204) (pc' := 212) rfl (hb hby at_204) rfl ((if0 _ _).trans (teq hf15).1) (by decide) (by decide) ?_
      show Steps p.tables e below (T13.setTop (mkF m 212 #[.val (.int p0), .val (.int p1), .val (.int p2), .val (.int p3), .val (.int p4), .val (.int p5), .val (.int n), .val (.int sa), .val (.int pa), .val (.int sb), .val (.int pb), .val (.int sc), .val (.int pc), .val (.int wA), .val (.int atA), .val (.int wB), .val (.int atB), .val (.ref g), .val (.int sm), .unset, .unset] [])) _
      refine XS.iload X13.here hx rfl (hb hby at_212) rfl ?_
      show Steps p.tables e below (T13.setTop (mkF m 214 #[.val (.int p0), .val (.int p1), .val (.int p2), .val (.int p3), .val (.int p4), .val (.int p5), .val (.int n), .val (.int sa), .val (.int pa), .val (.int sb), .val (.int pb), .val (.int sc), .val (.int pc), .val (.int wA), .val (.int atA), .val (.int wB), .val (.int atB), .val (.ref g), .val (.int sm), .unset, .unset] [(.int atA)])) _
      exact kt
    · refine ⟨T13, atB, Or.inr ⟨hf15, rfl⟩, ⟨X13, e13⟩, fun target kt => ?_⟩
      show Steps p.tables e below (T13.setTop (mkF m 204 #[.val (.int p0), .val (.int p1), .val (.int p2), .val (.int p3), .val (.int p4), .val (.int p5), .val (.int n), .val (.int sa), .val (.int pa), .val (.int sb), .val (.int pb), .val (.int sc), .val (.int pc), .val (.int wA), .val (.int atA), .val (.int wB), .val (.int atB), .val (.ref g), .val (.int sm), .unset, .unset] [(.int sm)])) _
      refine XS.ifNo X13.here hx rfl (hb hby at_204) rfl ((if0 _ _).trans (feq hf15).1) ?_
      show Steps p.tables e below (T13.setTop (mkF m 207 #[.val (.int p0), .val (.int p1), .val (.int p2), .val (.int p3), .val (.int p4), .val (.int p5), .val (.int n), .val (.int sa), .val (.int pa), .val (.int sb), .val (.int pb), .val (.int sc), .val (.int pc), .val (.int wA), .val (.int atA), .val (.int wB), .val (.int atB), .val (.ref g), .val (.int sm), .unset, .unset] [])) _
      refine XS.iload X13.here hx rfl (hb hby at_207) rfl ?_
      show Steps p.tables e below (T13.setTop (mkF m 209 #[.val (.int p0), .val (.int p1), .val (.int p2), .val (.int p3), .val (.int p4), .val (.int p5), .val (.int n), .val (.int sa), .val (.int pa), .val (.int sb), .val (.int pb), .val (.int sc), .val (.int pc), .val (.int wA), .val (.int atA), .val (.int wB), .val (.int atB), .val (.ref g), .val (.int sm), .unset, .unset] [(.int atB)])) _
      refine XS.goto X13.here hx rfl (pc0 := 209) (pc' := 214) rfl (hb hby at_209) (by decide) (by decide) ?_
      show Steps p.tables e below (T13.setTop (mkF m 214 #[.val (.int p0), .val (.int p1), .val (.int p2), .val (.int p3), .val (.int p4), .val (.int p5), .val (.int n), .val (.int sa), .val (.int pa), .val (.int sb), .val (.int pb), .val (.int sc), .val (.int pc), .val (.int wA), .val (.int atA), .val (.int wB), .val (.int atB), .val (.ref g), .val (.int sm), .unset, .unset] [(.int atB)])) _
      exact kt
  obtain ⟨T16, eC, hv16, ⟨X16, e16⟩, st16⟩ : ∃ (T' : State) (eC : Int32), ((sc = sb ∧ ((pc = pb ∧ eC = atB) ∨ (¬ (pc = pb) ∧ ((sc = sa ∧ ((pc = pa ∧ eC = atA) ∨ (¬ (pc = pa) ∧ eC = (0 : Int32)))) ∨ (¬ (sc = sa) ∧ eC = (0 : Int32)))))) ∨ (¬ (sc = sb) ∧ ((sc = sa ∧ ((pc = pa ∧ eC = atA) ∨ (¬ (pc = pa) ∧ eC = (0 : Int32)))) ∨ (¬ (sc = sa) ∧ eC = (0 : Int32))))) ∧ own_Go X15 T12.heap T' ∧ ∀ target, Steps p.tables e below (T'.setTop (mkF m 258 #[.val (.int p0), .val (.int p1), .val (.int p2), .val (.int p3), .val (.int p4), .val (.int p5), .val (.int n), .val (.int sa), .val (.int pa), .val (.int sb), .val (.int pb), .val (.int sc), .val (.int pc), .val (.int wA), .val (.int atA), .val (.int wB), .val (.int atB), .val (.ref g), .val (.int sm), .val (.int eA), .val (.int eC)] [])) target → Steps p.tables e below (T15.setTop (mkF m 223 #[.val (.int p0), .val (.int p1), .val (.int p2), .val (.int p3), .val (.int p4), .val (.int p5), .val (.int n), .val (.int sa), .val (.int pa), .val (.int sb), .val (.int pb), .val (.int sc), .val (.int pc), .val (.int wA), .val (.int atA), .val (.int wB), .val (.int atB), .val (.ref g), .val (.int sm), .val (.int eA), .val (.int (0 : Int32))] [(.int sb), (.int sc)])) target := by
    by_cases hf16 : sc = sb
    · obtain ⟨T17, w17_0, hv17, ⟨X17, e17⟩, st17⟩ : ∃ (T' : State) (w17_0 : Int32), ((pc = pb ∧ w17_0 = atB) ∨ (¬ (pc = pb) ∧ ((sc = sa ∧ ((pc = pa ∧ w17_0 = atA) ∨ (¬ (pc = pa) ∧ w17_0 = (0 : Int32)))) ∨ (¬ (sc = sa) ∧ w17_0 = (0 : Int32))))) ∧ own_Go X15 T12.heap T' ∧ ∀ target, Steps p.tables e below (T'.setTop (mkF m 258 #[.val (.int p0), .val (.int p1), .val (.int p2), .val (.int p3), .val (.int p4), .val (.int p5), .val (.int n), .val (.int sa), .val (.int pa), .val (.int sb), .val (.int pb), .val (.int sc), .val (.int pc), .val (.int wA), .val (.int atA), .val (.int wB), .val (.int atB), .val (.ref g), .val (.int sm), .val (.int eA), .val (.int w17_0)] [])) target → Steps p.tables e below (T15.setTop (mkF m 230 #[.val (.int p0), .val (.int p1), .val (.int p2), .val (.int p3), .val (.int p4), .val (.int p5), .val (.int n), .val (.int sa), .val (.int pa), .val (.int sb), .val (.int pb), .val (.int sc), .val (.int pc), .val (.int wA), .val (.int atA), .val (.int wB), .val (.int atB), .val (.ref g), .val (.int sm), .val (.int eA), .val (.int (0 : Int32))] [(.int pb), (.int pc)])) target := by
        by_cases hf17 : pc = pb
        · refine ⟨T15, atB, Or.inl ⟨hf17, rfl⟩, ⟨X15, e15⟩, fun target kt => ?_⟩
          show Steps p.tables e below (T15.setTop (mkF m 230 #[.val (.int p0), .val (.int p1), .val (.int p2), .val (.int p3), .val (.int p4), .val (.int p5), .val (.int n), .val (.int sa), .val (.int pa), .val (.int sb), .val (.int pb), .val (.int sc), .val (.int pc), .val (.int wA), .val (.int atA), .val (.int wB), .val (.int atB), .val (.ref g), .val (.int sm), .val (.int eA), .val (.int (0 : Int32))] [(.int pb), (.int pc)])) _
          refine XS.icmpNo X15.here hx rfl (hb hby at_230) rfl (teq hf17).2 ?_
          show Steps p.tables e below (T15.setTop (mkF m 233 #[.val (.int p0), .val (.int p1), .val (.int p2), .val (.int p3), .val (.int p4), .val (.int p5), .val (.int n), .val (.int sa), .val (.int pa), .val (.int sb), .val (.int pb), .val (.int sc), .val (.int pc), .val (.int wA), .val (.int atA), .val (.int wB), .val (.int atB), .val (.ref g), .val (.int sm), .val (.int eA), .val (.int (0 : Int32))] [])) _
          refine XS.iload X15.here hx rfl (hb hby at_233) rfl ?_
          show Steps p.tables e below (T15.setTop (mkF m 235 #[.val (.int p0), .val (.int p1), .val (.int p2), .val (.int p3), .val (.int p4), .val (.int p5), .val (.int n), .val (.int sa), .val (.int pa), .val (.int sb), .val (.int pb), .val (.int sc), .val (.int pc), .val (.int wA), .val (.int atA), .val (.int wB), .val (.int atB), .val (.ref g), .val (.int sm), .val (.int eA), .val (.int (0 : Int32))] [(.int atB)])) _
          refine XS.istore X15.here hx rfl (hb hby at_235) rfl (l' := #[.val (.int p0), .val (.int p1), .val (.int p2), .val (.int p3), .val (.int p4), .val (.int p5), .val (.int n), .val (.int sa), .val (.int pa), .val (.int sb), .val (.int pb), .val (.int sc), .val (.int pc), .val (.int wA), .val (.int atA), .val (.int wB), .val (.int atB), .val (.ref g), .val (.int sm), .val (.int eA), .val (.int atB)]) rfl ?_
          show Steps p.tables e below (T15.setTop (mkF m 237 #[.val (.int p0), .val (.int p1), .val (.int p2), .val (.int p3), .val (.int p4), .val (.int p5), .val (.int n), .val (.int sa), .val (.int pa), .val (.int sb), .val (.int pb), .val (.int sc), .val (.int pc), .val (.int wA), .val (.int atA), .val (.int wB), .val (.int atB), .val (.ref g), .val (.int sm), .val (.int eA), .val (.int atB)] [])) _
          refine XS.goto X15.here hx rfl (pc0 := 237) (pc' := 258) rfl (hb hby at_237) (by decide) (by decide) ?_
          show Steps p.tables e below (T15.setTop (mkF m 258 #[.val (.int p0), .val (.int p1), .val (.int p2), .val (.int p3), .val (.int p4), .val (.int p5), .val (.int n), .val (.int sa), .val (.int pa), .val (.int sb), .val (.int pb), .val (.int sc), .val (.int pc), .val (.int wA), .val (.int atA), .val (.int wB), .val (.int atB), .val (.ref g), .val (.int sm), .val (.int eA), .val (.int atB)] [])) _
          exact kt
        · obtain ⟨T18, w18_0, hv18, ⟨X18, e18⟩, st18⟩ : ∃ (T' : State) (w18_0 : Int32), ((sc = sa ∧ ((pc = pa ∧ w18_0 = atA) ∨ (¬ (pc = pa) ∧ w18_0 = (0 : Int32)))) ∨ (¬ (sc = sa) ∧ w18_0 = (0 : Int32))) ∧ own_Go X15 T12.heap T' ∧ ∀ target, Steps p.tables e below (T'.setTop (mkF m 258 #[.val (.int p0), .val (.int p1), .val (.int p2), .val (.int p3), .val (.int p4), .val (.int p5), .val (.int n), .val (.int sa), .val (.int pa), .val (.int sb), .val (.int pb), .val (.int sc), .val (.int pc), .val (.int wA), .val (.int atA), .val (.int wB), .val (.int atB), .val (.ref g), .val (.int sm), .val (.int eA), .val (.int w18_0)] [])) target → Steps p.tables e below (T15.setTop (mkF m 244 #[.val (.int p0), .val (.int p1), .val (.int p2), .val (.int p3), .val (.int p4), .val (.int p5), .val (.int n), .val (.int sa), .val (.int pa), .val (.int sb), .val (.int pb), .val (.int sc), .val (.int pc), .val (.int wA), .val (.int atA), .val (.int wB), .val (.int atB), .val (.ref g), .val (.int sm), .val (.int eA), .val (.int (0 : Int32))] [(.int sa), (.int sc)])) target := by
            by_cases hf18 : sc = sa
            · obtain ⟨T19, w19_0, hv19, ⟨X19, e19⟩, st19⟩ : ∃ (T' : State) (w19_0 : Int32), ((pc = pa ∧ w19_0 = atA) ∨ (¬ (pc = pa) ∧ w19_0 = (0 : Int32))) ∧ own_Go X15 T12.heap T' ∧ ∀ target, Steps p.tables e below (T'.setTop (mkF m 258 #[.val (.int p0), .val (.int p1), .val (.int p2), .val (.int p3), .val (.int p4), .val (.int p5), .val (.int n), .val (.int sa), .val (.int pa), .val (.int sb), .val (.int pb), .val (.int sc), .val (.int pc), .val (.int wA), .val (.int atA), .val (.int wB), .val (.int atB), .val (.ref g), .val (.int sm), .val (.int eA), .val (.int w19_0)] [])) target → Steps p.tables e below (T15.setTop (mkF m 251 #[.val (.int p0), .val (.int p1), .val (.int p2), .val (.int p3), .val (.int p4), .val (.int p5), .val (.int n), .val (.int sa), .val (.int pa), .val (.int sb), .val (.int pb), .val (.int sc), .val (.int pc), .val (.int wA), .val (.int atA), .val (.int wB), .val (.int atB), .val (.ref g), .val (.int sm), .val (.int eA), .val (.int (0 : Int32))] [(.int pa), (.int pc)])) target := by
                by_cases hf19 : pc = pa
                · refine ⟨T15, atA, Or.inl ⟨hf19, rfl⟩, ⟨X15, e15⟩, fun target kt => ?_⟩
                  show Steps p.tables e below (T15.setTop (mkF m 251 #[.val (.int p0), .val (.int p1), .val (.int p2), .val (.int p3), .val (.int p4), .val (.int p5), .val (.int n), .val (.int sa), .val (.int pa), .val (.int sb), .val (.int pb), .val (.int sc), .val (.int pc), .val (.int wA), .val (.int atA), .val (.int wB), .val (.int atB), .val (.ref g), .val (.int sm), .val (.int eA), .val (.int (0 : Int32))] [(.int pa), (.int pc)])) _
                  refine XS.icmpNo X15.here hx rfl (hb hby at_251) rfl (teq hf19).2 ?_
                  show Steps p.tables e below (T15.setTop (mkF m 254 #[.val (.int p0), .val (.int p1), .val (.int p2), .val (.int p3), .val (.int p4), .val (.int p5), .val (.int n), .val (.int sa), .val (.int pa), .val (.int sb), .val (.int pb), .val (.int sc), .val (.int pc), .val (.int wA), .val (.int atA), .val (.int wB), .val (.int atB), .val (.ref g), .val (.int sm), .val (.int eA), .val (.int (0 : Int32))] [])) _
                  refine XS.iload X15.here hx rfl (hb hby at_254) rfl ?_
                  show Steps p.tables e below (T15.setTop (mkF m 256 #[.val (.int p0), .val (.int p1), .val (.int p2), .val (.int p3), .val (.int p4), .val (.int p5), .val (.int n), .val (.int sa), .val (.int pa), .val (.int sb), .val (.int pb), .val (.int sc), .val (.int pc), .val (.int wA), .val (.int atA), .val (.int wB), .val (.int atB), .val (.ref g), .val (.int sm), .val (.int eA), .val (.int (0 : Int32))] [(.int atA)])) _
                  refine XS.istore X15.here hx rfl (hb hby at_256) rfl (l' := #[.val (.int p0), .val (.int p1), .val (.int p2), .val (.int p3), .val (.int p4), .val (.int p5), .val (.int n), .val (.int sa), .val (.int pa), .val (.int sb), .val (.int pb), .val (.int sc), .val (.int pc), .val (.int wA), .val (.int atA), .val (.int wB), .val (.int atB), .val (.ref g), .val (.int sm), .val (.int eA), .val (.int atA)]) rfl ?_
                  show Steps p.tables e below (T15.setTop (mkF m 258 #[.val (.int p0), .val (.int p1), .val (.int p2), .val (.int p3), .val (.int p4), .val (.int p5), .val (.int n), .val (.int sa), .val (.int pa), .val (.int sb), .val (.int pb), .val (.int sc), .val (.int pc), .val (.int wA), .val (.int atA), .val (.int wB), .val (.int atB), .val (.ref g), .val (.int sm), .val (.int eA), .val (.int atA)] [])) _
                  exact kt
                · refine ⟨T15, (0 : Int32), Or.inr ⟨hf19, rfl⟩, ⟨X15, e15⟩, fun target kt => ?_⟩
                  show Steps p.tables e below (T15.setTop (mkF m 251 #[.val (.int p0), .val (.int p1), .val (.int p2), .val (.int p3), .val (.int p4), .val (.int p5), .val (.int n), .val (.int sa), .val (.int pa), .val (.int sb), .val (.int pb), .val (.int sc), .val (.int pc), .val (.int wA), .val (.int atA), .val (.int wB), .val (.int atB), .val (.ref g), .val (.int sm), .val (.int eA), .val (.int (0 : Int32))] [(.int pa), (.int pc)])) _
                  refine XS.icmpYes X15.here hx rfl (pc0 := 251) (pc' := 258) rfl (hb hby at_251) rfl (feq hf19).2 (by decide) (by decide) ?_
                  show Steps p.tables e below (T15.setTop (mkF m 258 #[.val (.int p0), .val (.int p1), .val (.int p2), .val (.int p3), .val (.int p4), .val (.int p5), .val (.int n), .val (.int sa), .val (.int pa), .val (.int sb), .val (.int pb), .val (.int sc), .val (.int pc), .val (.int wA), .val (.int atA), .val (.int wB), .val (.int atB), .val (.ref g), .val (.int sm), .val (.int eA), .val (.int (0 : Int32))] [])) _
                  exact kt
              refine ⟨T19, w19_0, Or.inl ⟨hf18, hv19⟩, ⟨X19, e19⟩, fun target kt => ?_⟩
              show Steps p.tables e below (T15.setTop (mkF m 244 #[.val (.int p0), .val (.int p1), .val (.int p2), .val (.int p3), .val (.int p4), .val (.int p5), .val (.int n), .val (.int sa), .val (.int pa), .val (.int sb), .val (.int pb), .val (.int sc), .val (.int pc), .val (.int wA), .val (.int atA), .val (.int wB), .val (.int atB), .val (.ref g), .val (.int sm), .val (.int eA), .val (.int (0 : Int32))] [(.int sa), (.int sc)])) _
              refine XS.icmpNo X15.here hx rfl (hb hby at_244) rfl (teq hf18).2 ?_
              show Steps p.tables e below (T15.setTop (mkF m 247 #[.val (.int p0), .val (.int p1), .val (.int p2), .val (.int p3), .val (.int p4), .val (.int p5), .val (.int n), .val (.int sa), .val (.int pa), .val (.int sb), .val (.int pb), .val (.int sc), .val (.int pc), .val (.int wA), .val (.int atA), .val (.int wB), .val (.int atB), .val (.ref g), .val (.int sm), .val (.int eA), .val (.int (0 : Int32))] [])) _
              refine XS.iload X15.here hx rfl (hb hby at_247) rfl ?_
              show Steps p.tables e below (T15.setTop (mkF m 249 #[.val (.int p0), .val (.int p1), .val (.int p2), .val (.int p3), .val (.int p4), .val (.int p5), .val (.int n), .val (.int sa), .val (.int pa), .val (.int sb), .val (.int pb), .val (.int sc), .val (.int pc), .val (.int wA), .val (.int atA), .val (.int wB), .val (.int atB), .val (.ref g), .val (.int sm), .val (.int eA), .val (.int (0 : Int32))] [(.int pc)])) _
              refine XS.iload X15.here hx rfl (hb hby at_249) rfl ?_
              refine st19 _ ?_
              show Steps p.tables e below (T19.setTop (mkF m 258 #[.val (.int p0), .val (.int p1), .val (.int p2), .val (.int p3), .val (.int p4), .val (.int p5), .val (.int n), .val (.int sa), .val (.int pa), .val (.int sb), .val (.int pb), .val (.int sc), .val (.int pc), .val (.int wA), .val (.int atA), .val (.int wB), .val (.int atB), .val (.ref g), .val (.int sm), .val (.int eA), .val (.int w19_0)] [])) _
              exact kt
            · refine ⟨T15, (0 : Int32), Or.inr ⟨hf18, rfl⟩, ⟨X15, e15⟩, fun target kt => ?_⟩
              show Steps p.tables e below (T15.setTop (mkF m 244 #[.val (.int p0), .val (.int p1), .val (.int p2), .val (.int p3), .val (.int p4), .val (.int p5), .val (.int n), .val (.int sa), .val (.int pa), .val (.int sb), .val (.int pb), .val (.int sc), .val (.int pc), .val (.int wA), .val (.int atA), .val (.int wB), .val (.int atB), .val (.ref g), .val (.int sm), .val (.int eA), .val (.int (0 : Int32))] [(.int sa), (.int sc)])) _
              refine XS.icmpYes X15.here hx rfl (pc0 := 244) (pc' := 258) rfl (hb hby at_244) rfl (feq hf18).2 (by decide) (by decide) ?_
              show Steps p.tables e below (T15.setTop (mkF m 258 #[.val (.int p0), .val (.int p1), .val (.int p2), .val (.int p3), .val (.int p4), .val (.int p5), .val (.int n), .val (.int sa), .val (.int pa), .val (.int sb), .val (.int pb), .val (.int sc), .val (.int pc), .val (.int wA), .val (.int atA), .val (.int wB), .val (.int atB), .val (.ref g), .val (.int sm), .val (.int eA), .val (.int (0 : Int32))] [])) _
              exact kt
          refine ⟨T18, w18_0, Or.inr ⟨hf17, hv18⟩, ⟨X18, e18⟩, fun target kt => ?_⟩
          show Steps p.tables e below (T15.setTop (mkF m 230 #[.val (.int p0), .val (.int p1), .val (.int p2), .val (.int p3), .val (.int p4), .val (.int p5), .val (.int n), .val (.int sa), .val (.int pa), .val (.int sb), .val (.int pb), .val (.int sc), .val (.int pc), .val (.int wA), .val (.int atA), .val (.int wB), .val (.int atB), .val (.ref g), .val (.int sm), .val (.int eA), .val (.int (0 : Int32))] [(.int pb), (.int pc)])) _
          refine XS.icmpYes X15.here hx rfl (pc0 := 230) (pc' := 240) rfl (hb hby at_230) rfl (feq hf17).2 (by decide) (by decide) ?_
          show Steps p.tables e below (T15.setTop (mkF m 240 #[.val (.int p0), .val (.int p1), .val (.int p2), .val (.int p3), .val (.int p4), .val (.int p5), .val (.int n), .val (.int sa), .val (.int pa), .val (.int sb), .val (.int pb), .val (.int sc), .val (.int pc), .val (.int wA), .val (.int atA), .val (.int wB), .val (.int atB), .val (.ref g), .val (.int sm), .val (.int eA), .val (.int (0 : Int32))] [])) _
          refine XS.iload X15.here hx rfl (hb hby at_240) rfl ?_
          show Steps p.tables e below (T15.setTop (mkF m 242 #[.val (.int p0), .val (.int p1), .val (.int p2), .val (.int p3), .val (.int p4), .val (.int p5), .val (.int n), .val (.int sa), .val (.int pa), .val (.int sb), .val (.int pb), .val (.int sc), .val (.int pc), .val (.int wA), .val (.int atA), .val (.int wB), .val (.int atB), .val (.ref g), .val (.int sm), .val (.int eA), .val (.int (0 : Int32))] [(.int sc)])) _
          refine XS.iload X15.here hx rfl (hb hby at_242) rfl ?_
          refine st18 _ ?_
          show Steps p.tables e below (T18.setTop (mkF m 258 #[.val (.int p0), .val (.int p1), .val (.int p2), .val (.int p3), .val (.int p4), .val (.int p5), .val (.int n), .val (.int sa), .val (.int pa), .val (.int sb), .val (.int pb), .val (.int sc), .val (.int pc), .val (.int wA), .val (.int atA), .val (.int wB), .val (.int atB), .val (.ref g), .val (.int sm), .val (.int eA), .val (.int w18_0)] [])) _
          exact kt
      refine ⟨T17, w17_0, Or.inl ⟨hf16, hv17⟩, ⟨X17, e17⟩, fun target kt => ?_⟩
      show Steps p.tables e below (T15.setTop (mkF m 223 #[.val (.int p0), .val (.int p1), .val (.int p2), .val (.int p3), .val (.int p4), .val (.int p5), .val (.int n), .val (.int sa), .val (.int pa), .val (.int sb), .val (.int pb), .val (.int sc), .val (.int pc), .val (.int wA), .val (.int atA), .val (.int wB), .val (.int atB), .val (.ref g), .val (.int sm), .val (.int eA), .val (.int (0 : Int32))] [(.int sb), (.int sc)])) _
      refine XS.icmpNo X15.here hx rfl (hb hby at_223) rfl (teq hf16).2 ?_
      show Steps p.tables e below (T15.setTop (mkF m 226 #[.val (.int p0), .val (.int p1), .val (.int p2), .val (.int p3), .val (.int p4), .val (.int p5), .val (.int n), .val (.int sa), .val (.int pa), .val (.int sb), .val (.int pb), .val (.int sc), .val (.int pc), .val (.int wA), .val (.int atA), .val (.int wB), .val (.int atB), .val (.ref g), .val (.int sm), .val (.int eA), .val (.int (0 : Int32))] [])) _
      refine XS.iload X15.here hx rfl (hb hby at_226) rfl ?_
      show Steps p.tables e below (T15.setTop (mkF m 228 #[.val (.int p0), .val (.int p1), .val (.int p2), .val (.int p3), .val (.int p4), .val (.int p5), .val (.int n), .val (.int sa), .val (.int pa), .val (.int sb), .val (.int pb), .val (.int sc), .val (.int pc), .val (.int wA), .val (.int atA), .val (.int wB), .val (.int atB), .val (.ref g), .val (.int sm), .val (.int eA), .val (.int (0 : Int32))] [(.int pc)])) _
      refine XS.iload X15.here hx rfl (hb hby at_228) rfl ?_
      refine st17 _ ?_
      show Steps p.tables e below (T17.setTop (mkF m 258 #[.val (.int p0), .val (.int p1), .val (.int p2), .val (.int p3), .val (.int p4), .val (.int p5), .val (.int n), .val (.int sa), .val (.int pa), .val (.int sb), .val (.int pb), .val (.int sc), .val (.int pc), .val (.int wA), .val (.int atA), .val (.int wB), .val (.int atB), .val (.ref g), .val (.int sm), .val (.int eA), .val (.int w17_0)] [])) _
      exact kt
    · obtain ⟨T20, w20_0, hv20, ⟨X20, e20⟩, st20⟩ : ∃ (T' : State) (w20_0 : Int32), ((sc = sa ∧ ((pc = pa ∧ w20_0 = atA) ∨ (¬ (pc = pa) ∧ w20_0 = (0 : Int32)))) ∨ (¬ (sc = sa) ∧ w20_0 = (0 : Int32))) ∧ own_Go X15 T12.heap T' ∧ ∀ target, Steps p.tables e below (T'.setTop (mkF m 258 #[.val (.int p0), .val (.int p1), .val (.int p2), .val (.int p3), .val (.int p4), .val (.int p5), .val (.int n), .val (.int sa), .val (.int pa), .val (.int sb), .val (.int pb), .val (.int sc), .val (.int pc), .val (.int wA), .val (.int atA), .val (.int wB), .val (.int atB), .val (.ref g), .val (.int sm), .val (.int eA), .val (.int w20_0)] [])) target → Steps p.tables e below (T15.setTop (mkF m 244 #[.val (.int p0), .val (.int p1), .val (.int p2), .val (.int p3), .val (.int p4), .val (.int p5), .val (.int n), .val (.int sa), .val (.int pa), .val (.int sb), .val (.int pb), .val (.int sc), .val (.int pc), .val (.int wA), .val (.int atA), .val (.int wB), .val (.int atB), .val (.ref g), .val (.int sm), .val (.int eA), .val (.int (0 : Int32))] [(.int sa), (.int sc)])) target := by
        by_cases hf20 : sc = sa
        · obtain ⟨T21, w21_0, hv21, ⟨X21, e21⟩, st21⟩ : ∃ (T' : State) (w21_0 : Int32), ((pc = pa ∧ w21_0 = atA) ∨ (¬ (pc = pa) ∧ w21_0 = (0 : Int32))) ∧ own_Go X15 T12.heap T' ∧ ∀ target, Steps p.tables e below (T'.setTop (mkF m 258 #[.val (.int p0), .val (.int p1), .val (.int p2), .val (.int p3), .val (.int p4), .val (.int p5), .val (.int n), .val (.int sa), .val (.int pa), .val (.int sb), .val (.int pb), .val (.int sc), .val (.int pc), .val (.int wA), .val (.int atA), .val (.int wB), .val (.int atB), .val (.ref g), .val (.int sm), .val (.int eA), .val (.int w21_0)] [])) target → Steps p.tables e below (T15.setTop (mkF m 251 #[.val (.int p0), .val (.int p1), .val (.int p2), .val (.int p3), .val (.int p4), .val (.int p5), .val (.int n), .val (.int sa), .val (.int pa), .val (.int sb), .val (.int pb), .val (.int sc), .val (.int pc), .val (.int wA), .val (.int atA), .val (.int wB), .val (.int atB), .val (.ref g), .val (.int sm), .val (.int eA), .val (.int (0 : Int32))] [(.int pa), (.int pc)])) target := by
            by_cases hf21 : pc = pa
            · refine ⟨T15, atA, Or.inl ⟨hf21, rfl⟩, ⟨X15, e15⟩, fun target kt => ?_⟩
              show Steps p.tables e below (T15.setTop (mkF m 251 #[.val (.int p0), .val (.int p1), .val (.int p2), .val (.int p3), .val (.int p4), .val (.int p5), .val (.int n), .val (.int sa), .val (.int pa), .val (.int sb), .val (.int pb), .val (.int sc), .val (.int pc), .val (.int wA), .val (.int atA), .val (.int wB), .val (.int atB), .val (.ref g), .val (.int sm), .val (.int eA), .val (.int (0 : Int32))] [(.int pa), (.int pc)])) _
              refine XS.icmpNo X15.here hx rfl (hb hby at_251) rfl (teq hf21).2 ?_
              show Steps p.tables e below (T15.setTop (mkF m 254 #[.val (.int p0), .val (.int p1), .val (.int p2), .val (.int p3), .val (.int p4), .val (.int p5), .val (.int n), .val (.int sa), .val (.int pa), .val (.int sb), .val (.int pb), .val (.int sc), .val (.int pc), .val (.int wA), .val (.int atA), .val (.int wB), .val (.int atB), .val (.ref g), .val (.int sm), .val (.int eA), .val (.int (0 : Int32))] [])) _
              refine XS.iload X15.here hx rfl (hb hby at_254) rfl ?_
              show Steps p.tables e below (T15.setTop (mkF m 256 #[.val (.int p0), .val (.int p1), .val (.int p2), .val (.int p3), .val (.int p4), .val (.int p5), .val (.int n), .val (.int sa), .val (.int pa), .val (.int sb), .val (.int pb), .val (.int sc), .val (.int pc), .val (.int wA), .val (.int atA), .val (.int wB), .val (.int atB), .val (.ref g), .val (.int sm), .val (.int eA), .val (.int (0 : Int32))] [(.int atA)])) _
              refine XS.istore X15.here hx rfl (hb hby at_256) rfl (l' := #[.val (.int p0), .val (.int p1), .val (.int p2), .val (.int p3), .val (.int p4), .val (.int p5), .val (.int n), .val (.int sa), .val (.int pa), .val (.int sb), .val (.int pb), .val (.int sc), .val (.int pc), .val (.int wA), .val (.int atA), .val (.int wB), .val (.int atB), .val (.ref g), .val (.int sm), .val (.int eA), .val (.int atA)]) rfl ?_
              show Steps p.tables e below (T15.setTop (mkF m 258 #[.val (.int p0), .val (.int p1), .val (.int p2), .val (.int p3), .val (.int p4), .val (.int p5), .val (.int n), .val (.int sa), .val (.int pa), .val (.int sb), .val (.int pb), .val (.int sc), .val (.int pc), .val (.int wA), .val (.int atA), .val (.int wB), .val (.int atB), .val (.ref g), .val (.int sm), .val (.int eA), .val (.int atA)] [])) _
              exact kt
            · refine ⟨T15, (0 : Int32), Or.inr ⟨hf21, rfl⟩, ⟨X15, e15⟩, fun target kt => ?_⟩
              show Steps p.tables e below (T15.setTop (mkF m 251 #[.val (.int p0), .val (.int p1), .val (.int p2), .val (.int p3), .val (.int p4), .val (.int p5), .val (.int n), .val (.int sa), .val (.int pa), .val (.int sb), .val (.int pb), .val (.int sc), .val (.int pc), .val (.int wA), .val (.int atA), .val (.int wB), .val (.int atB), .val (.ref g), .val (.int sm), .val (.int eA), .val (.int (0 : Int32))] [(.int pa), (.int pc)])) _
              refine XS.icmpYes X15.here hx rfl (pc0 := 251) (pc' := 258) rfl (hb hby at_251) rfl (feq hf21).2 (by decide) (by decide) ?_
              show Steps p.tables e below (T15.setTop (mkF m 258 #[.val (.int p0), .val (.int p1), .val (.int p2), .val (.int p3), .val (.int p4), .val (.int p5), .val (.int n), .val (.int sa), .val (.int pa), .val (.int sb), .val (.int pb), .val (.int sc), .val (.int pc), .val (.int wA), .val (.int atA), .val (.int wB), .val (.int atB), .val (.ref g), .val (.int sm), .val (.int eA), .val (.int (0 : Int32))] [])) _
              exact kt
          refine ⟨T21, w21_0, Or.inl ⟨hf20, hv21⟩, ⟨X21, e21⟩, fun target kt => ?_⟩
          show Steps p.tables e below (T15.setTop (mkF m 244 #[.val (.int p0), .val (.int p1), .val (.int p2), .val (.int p3), .val (.int p4), .val (.int p5), .val (.int n), .val (.int sa), .val (.int pa), .val (.int sb), .val (.int pb), .val (.int sc), .val (.int pc), .val (.int wA), .val (.int atA), .val (.int wB), .val (.int atB), .val (.ref g), .val (.int sm), .val (.int eA), .val (.int (0 : Int32))] [(.int sa), (.int sc)])) _
          refine XS.icmpNo X15.here hx rfl (hb hby at_244) rfl (teq hf20).2 ?_
          show Steps p.tables e below (T15.setTop (mkF m 247 #[.val (.int p0), .val (.int p1), .val (.int p2), .val (.int p3), .val (.int p4), .val (.int p5), .val (.int n), .val (.int sa), .val (.int pa), .val (.int sb), .val (.int pb), .val (.int sc), .val (.int pc), .val (.int wA), .val (.int atA), .val (.int wB), .val (.int atB), .val (.ref g), .val (.int sm), .val (.int eA), .val (.int (0 : Int32))] [])) _
          refine XS.iload X15.here hx rfl (hb hby at_247) rfl ?_
          show Steps p.tables e below (T15.setTop (mkF m 249 #[.val (.int p0), .val (.int p1), .val (.int p2), .val (.int p3), .val (.int p4), .val (.int p5), .val (.int n), .val (.int sa), .val (.int pa), .val (.int sb), .val (.int pb), .val (.int sc), .val (.int pc), .val (.int wA), .val (.int atA), .val (.int wB), .val (.int atB), .val (.ref g), .val (.int sm), .val (.int eA), .val (.int (0 : Int32))] [(.int pc)])) _
          refine XS.iload X15.here hx rfl (hb hby at_249) rfl ?_
          refine st21 _ ?_
          show Steps p.tables e below (T21.setTop (mkF m 258 #[.val (.int p0), .val (.int p1), .val (.int p2), .val (.int p3), .val (.int p4), .val (.int p5), .val (.int n), .val (.int sa), .val (.int pa), .val (.int sb), .val (.int pb), .val (.int sc), .val (.int pc), .val (.int wA), .val (.int atA), .val (.int wB), .val (.int atB), .val (.ref g), .val (.int sm), .val (.int eA), .val (.int w21_0)] [])) _
          exact kt
        · refine ⟨T15, (0 : Int32), Or.inr ⟨hf20, rfl⟩, ⟨X15, e15⟩, fun target kt => ?_⟩
          show Steps p.tables e below (T15.setTop (mkF m 244 #[.val (.int p0), .val (.int p1), .val (.int p2), .val (.int p3), .val (.int p4), .val (.int p5), .val (.int n), .val (.int sa), .val (.int pa), .val (.int sb), .val (.int pb), .val (.int sc), .val (.int pc), .val (.int wA), .val (.int atA), .val (.int wB), .val (.int atB), .val (.ref g), .val (.int sm), .val (.int eA), .val (.int (0 : Int32))] [(.int sa), (.int sc)])) _
          refine XS.icmpYes X15.here hx rfl (pc0 := 244) (pc' := 258) rfl (hb hby at_244) rfl (feq hf20).2 (by decide) (by decide) ?_
          show Steps p.tables e below (T15.setTop (mkF m 258 #[.val (.int p0), .val (.int p1), .val (.int p2), .val (.int p3), .val (.int p4), .val (.int p5), .val (.int n), .val (.int sa), .val (.int pa), .val (.int sb), .val (.int pb), .val (.int sc), .val (.int pc), .val (.int wA), .val (.int atA), .val (.int wB), .val (.int atB), .val (.ref g), .val (.int sm), .val (.int eA), .val (.int (0 : Int32))] [])) _
          exact kt
      refine ⟨T20, w20_0, Or.inr ⟨hf16, hv20⟩, ⟨X20, e20⟩, fun target kt => ?_⟩
      show Steps p.tables e below (T15.setTop (mkF m 223 #[.val (.int p0), .val (.int p1), .val (.int p2), .val (.int p3), .val (.int p4), .val (.int p5), .val (.int n), .val (.int sa), .val (.int pa), .val (.int sb), .val (.int pb), .val (.int sc), .val (.int pc), .val (.int wA), .val (.int atA), .val (.int wB), .val (.int atB), .val (.ref g), .val (.int sm), .val (.int eA), .val (.int (0 : Int32))] [(.int sb), (.int sc)])) _
      refine XS.icmpYes X15.here hx rfl (pc0 := 223) (pc' := 240) rfl (hb hby at_223) rfl (feq hf16).2 (by decide) (by decide) ?_
      show Steps p.tables e below (T15.setTop (mkF m 240 #[.val (.int p0), .val (.int p1), .val (.int p2), .val (.int p3), .val (.int p4), .val (.int p5), .val (.int n), .val (.int sa), .val (.int pa), .val (.int sb), .val (.int pb), .val (.int sc), .val (.int pc), .val (.int wA), .val (.int atA), .val (.int wB), .val (.int atB), .val (.ref g), .val (.int sm), .val (.int eA), .val (.int (0 : Int32))] [])) _
      refine XS.iload X15.here hx rfl (hb hby at_240) rfl ?_
      show Steps p.tables e below (T15.setTop (mkF m 242 #[.val (.int p0), .val (.int p1), .val (.int p2), .val (.int p3), .val (.int p4), .val (.int p5), .val (.int n), .val (.int sa), .val (.int pa), .val (.int sb), .val (.int pb), .val (.int sc), .val (.int pc), .val (.int wA), .val (.int atA), .val (.int wB), .val (.int atB), .val (.ref g), .val (.int sm), .val (.int eA), .val (.int (0 : Int32))] [(.int sc)])) _
      refine XS.iload X15.here hx rfl (hb hby at_242) rfl ?_
      refine st20 _ ?_
      show Steps p.tables e below (T20.setTop (mkF m 258 #[.val (.int p0), .val (.int p1), .val (.int p2), .val (.int p3), .val (.int p4), .val (.int p5), .val (.int n), .val (.int sa), .val (.int pa), .val (.int sb), .val (.int pb), .val (.int sc), .val (.int pc), .val (.int wA), .val (.int atA), .val (.int wB), .val (.int atB), .val (.ref g), .val (.int sm), .val (.int eA), .val (.int w20_0)] [])) _
      exact kt
  have VA := own_vals (own_and3 _) hval10
  have VB := own_vals (own_and3 _) hval12
  have hj0 := own_hi hfour st_sa pr_pa
  obtain ⟨cq22, kq22, q22a, q22b, q22c⟩ := isOf hZ e16 G12.1
  obtain ⟨_, _, ⟨T22, L22, k22, n22⟩, -, X22, ⟨Lc22, hQ22, l22, y22, z22⟩, st22⟩ := X16.virtualBack hx (y := (⟨"com/example/doorway/doorway/checker/StateGraph", "atDoorway", "(II)Z"⟩ : MethodName)) (z := (⟨"com/example/doorway/doorway/checker/StateGraph", "atDoorway", "(II)Z"⟩ : MethodName)) hown (mvT hZ (hw _ (List.mem_of_getElem? (i := 59) rfl))) (mvT hZ (hw _ (List.mem_of_getElem? (i := 60) rfl))) (notFace_of_selects (args := #[]) (mvT hZ (hw _ (List.mem_of_getElem? (i := 62) rfl)))) (mvT hZ (hw _ (List.mem_of_getElem? (i := 62) rfl))) (mvT hZ (hw _ (List.mem_of_getElem? (i := 61) rfl))) (by decide) (backOf (W := 0) (own_read l Z a0 hw [] g P M S F n (((0 : Int32) + (1 : Int32)) + (1 : Int32)) (own_up (own_up (fun _ => (0 : Int32)) ((sa * n) + pa).toNatClampNeg val10) ((sb * n) + pb).toNatClampNeg val12) sa pa T12.heap n0 O12 G12 hj0) hZ (hw _ (List.mem_of_getElem? (i := 63) rfl)) (hw _ (List.mem_of_getElem? (i := 2) rfl)) (by decide) (by decide)) q22a q22c (g := (mkF m 264 #[.val (.int p0), .val (.int p1), .val (.int p2), .val (.int p3), .val (.int p4), .val (.int p5), .val (.int n), .val (.int sa), .val (.int pa), .val (.int sb), .val (.int pb), .val (.int sc), .val (.int pc), .val (.int wA), .val (.int atA), .val (.int wB), .val (.int atB), .val (.ref g), .val (.int sm), .val (.int eA), .val (.int eC)] [(.int pa), (.int sa), (.ref g)])) rfl (by rw [hml]; rfl) (Steps.refl _) (argsL := [(.int sa), (.int pa)]) (rest := []) (lenOf own_pd7 rfl) rfl (by show 2 * 0 + _ ≤ _; exact Nat.le_of_eq rfl) (hb hby at_264) (fun _ _ => ⟨rfl, e16, (by decide : 5 + 0 ≤ _), (by decide : 10247 + 0 ≤ _)⟩)
  dsimp only [Pt.U, Pt.locs, Pt.cells, Pt.slots] at X22 l22 y22 z22 st22 hQ22
  subst l22 y22 z22
  obtain ⟨rb22, rfl, rfl, e22, hb22⟩ := hQ22
  try rw [List.append_nil] at X22
  have hj1 := own_hi hfour st_sb pr_pb
  obtain ⟨cq23, kq23, q23a, q23b, q23c⟩ := isOf hZ e22 G12.1
  obtain ⟨_, _, ⟨T23, L23, k23, n23⟩, -, X23, ⟨Lc23, hQ23, l23, y23, z23⟩, st23⟩ := X22.virtualBack hx (y := (⟨"com/example/doorway/doorway/checker/StateGraph", "atDoorway", "(II)Z"⟩ : MethodName)) (z := (⟨"com/example/doorway/doorway/checker/StateGraph", "atDoorway", "(II)Z"⟩ : MethodName)) hown (mvT hZ (hw _ (List.mem_of_getElem? (i := 59) rfl))) (mvT hZ (hw _ (List.mem_of_getElem? (i := 60) rfl))) (notFace_of_selects (args := #[]) (mvT hZ (hw _ (List.mem_of_getElem? (i := 62) rfl)))) (mvT hZ (hw _ (List.mem_of_getElem? (i := 62) rfl))) (mvT hZ (hw _ (List.mem_of_getElem? (i := 61) rfl))) (by decide) (backOf (W := 0) (own_read l Z a0 hw [] g P M S F n (((0 : Int32) + (1 : Int32)) + (1 : Int32)) (own_up (own_up (fun _ => (0 : Int32)) ((sa * n) + pa).toNatClampNeg val10) ((sb * n) + pb).toNatClampNeg val12) sb pb T12.heap n0 O12 G12 hj1) hZ (hw _ (List.mem_of_getElem? (i := 63) rfl)) (hw _ (List.mem_of_getElem? (i := 2) rfl)) (by decide) (by decide)) q23a q23c (g := (mkF m 278 #[.val (.int p0), .val (.int p1), .val (.int p2), .val (.int p3), .val (.int p4), .val (.int p5), .val (.int n), .val (.int sa), .val (.int pa), .val (.int sb), .val (.int pb), .val (.int sc), .val (.int pc), .val (.int wA), .val (.int atA), .val (.int wB), .val (.int atB), .val (.ref g), .val (.int sm), .val (.int eA), .val (.int eC)] [(.int pb), (.int sb), (.ref g)])) rfl (by rw [hml]; rfl) (Steps.refl _) (argsL := [(.int sb), (.int pb)]) (rest := []) (lenOf own_pd7 rfl) rfl (by show 2 * 0 + _ ≤ _; exact Nat.le_of_eq rfl) (hb hby at_278) (fun _ _ => ⟨rfl, e22, (by decide : 5 + 0 ≤ _), (by decide : 10247 + 0 ≤ _)⟩)
  dsimp only [Pt.U, Pt.locs, Pt.cells, Pt.slots] at X23 l23 y23 z23 st23 hQ23
  subst l23 y23 z23
  obtain ⟨rb23, rfl, rfl, e23, hb23⟩ := hQ23
  try rw [List.append_nil] at X23
  have hj2 := own_hi hfour st_sc pr_pc
  obtain ⟨cq24, kq24, q24a, q24b, q24c⟩ := isOf hZ e23 G12.1
  obtain ⟨_, _, ⟨T24, L24, k24, n24⟩, -, X24, ⟨Lc24, hQ24, l24, y24, z24⟩, st24⟩ := X23.virtualBack hx (y := (⟨"com/example/doorway/doorway/checker/StateGraph", "atDoorway", "(II)Z"⟩ : MethodName)) (z := (⟨"com/example/doorway/doorway/checker/StateGraph", "atDoorway", "(II)Z"⟩ : MethodName)) hown (mvT hZ (hw _ (List.mem_of_getElem? (i := 59) rfl))) (mvT hZ (hw _ (List.mem_of_getElem? (i := 60) rfl))) (notFace_of_selects (args := #[]) (mvT hZ (hw _ (List.mem_of_getElem? (i := 62) rfl)))) (mvT hZ (hw _ (List.mem_of_getElem? (i := 62) rfl))) (mvT hZ (hw _ (List.mem_of_getElem? (i := 61) rfl))) (by decide) (backOf (W := 0) (own_read l Z a0 hw [] g P M S F n (((0 : Int32) + (1 : Int32)) + (1 : Int32)) (own_up (own_up (fun _ => (0 : Int32)) ((sa * n) + pa).toNatClampNeg val10) ((sb * n) + pb).toNatClampNeg val12) sc pc T12.heap n0 O12 G12 hj2) hZ (hw _ (List.mem_of_getElem? (i := 63) rfl)) (hw _ (List.mem_of_getElem? (i := 2) rfl)) (by decide) (by decide)) q24a q24c (g := (mkF m 292 #[.val (.int p0), .val (.int p1), .val (.int p2), .val (.int p3), .val (.int p4), .val (.int p5), .val (.int n), .val (.int sa), .val (.int pa), .val (.int sb), .val (.int pb), .val (.int sc), .val (.int pc), .val (.int wA), .val (.int atA), .val (.int wB), .val (.int atB), .val (.ref g), .val (.int sm), .val (.int eA), .val (.int eC)] [(.int pc), (.int sc), (.ref g)])) rfl (by rw [hml]; rfl) (Steps.refl _) (argsL := [(.int sc), (.int pc)]) (rest := []) (lenOf own_pd7 rfl) rfl (by show 2 * 0 + _ ≤ _; exact Nat.le_of_eq rfl) (hb hby at_292) (fun _ _ => ⟨rfl, e23, (by decide : 5 + 0 ≤ _), (by decide : 10247 + 0 ≤ _)⟩)
  dsimp only [Pt.U, Pt.locs, Pt.cells, Pt.slots] at X24 l24 y24 z24 st24 hQ24
  subst l24 y24 z24
  obtain ⟨rb24, rfl, rfl, e24, hb24⟩ := hQ24
  try rw [List.append_nil] at X24
  obtain ⟨fs, hr, hrun, hended, hW, hsame⟩ := X24.leave (v := some (.int (1 : Int32))) (fun h => by rw [Bd.returns] at h; cases h)
  refine ⟨_, _, pre0 _ ?_, hrun, hended, _, _, rfl, ?_, ⟨_, rfl⟩, hW, hsame.mono (by decide) (by decide)⟩
  · show Steps p.tables e below (s₁.setTop (mkF m 0 #[.val (.int p0), .val (.int p1), .val (.int p2), .val (.int p3), .val (.int p4), .val (.int p5), .unset, .unset, .unset, .unset, .unset, .unset, .unset, .unset, .unset, .unset, .unset, .unset, .unset, .unset, .unset] [])) _
    refine XS.iloadN X0.here hx rfl (hb hby at_0) rfl ?_
    show Steps p.tables e below (s₁.setTop (mkF m 1 #[.val (.int p0), .val (.int p1), .val (.int p2), .val (.int p3), .val (.int p4), .val (.int p5), .unset, .unset, .unset, .unset, .unset, .unset, .unset, .unset, .unset, .unset, .unset, .unset, .unset, .unset, .unset] [(.int p0)])) _
    refine XS.iconst X0.here hx rfl (hb hby at_1) ?_
    show Steps p.tables e below (s₁.setTop (mkF m 2 #[.val (.int p0), .val (.int p1), .val (.int p2), .val (.int p3), .val (.int p4), .val (.int p5), .unset, .unset, .unset, .unset, .unset, .unset, .unset, .unset, .unset, .unset, .unset, .unset, .unset, .unset, .unset] [(.int (3 : Int32)), (.int p0)])) _
    refine XS.iand X0.here hx rfl (hb hby at_2) rfl ?_
    show Steps p.tables e below (s₁.setTop (mkF m 3 #[.val (.int p0), .val (.int p1), .val (.int p2), .val (.int p3), .val (.int p4), .val (.int p5), .unset, .unset, .unset, .unset, .unset, .unset, .unset, .unset, .unset, .unset, .unset, .unset, .unset, .unset, .unset] [(.int (p0 &&& (3 : Int32)))])) _
    refine XS.iconst X0.here hx rfl (hb hby at_3) ?_
    show Steps p.tables e below (s₁.setTop (mkF m 4 #[.val (.int p0), .val (.int p1), .val (.int p2), .val (.int p3), .val (.int p4), .val (.int p5), .unset, .unset, .unset, .unset, .unset, .unset, .unset, .unset, .unset, .unset, .unset, .unset, .unset, .unset, .unset] [(.int (1 : Int32)), (.int (p0 &&& (3 : Int32)))])) _
    refine XS.iadd X0.here hx rfl (hb hby at_4) rfl ?_
    show Steps p.tables e below (s₁.setTop (mkF m 5 #[.val (.int p0), .val (.int p1), .val (.int p2), .val (.int p3), .val (.int p4), .val (.int p5), .unset, .unset, .unset, .unset, .unset, .unset, .unset, .unset, .unset, .unset, .unset, .unset, .unset, .unset, .unset] [(.int ((p0 &&& (3 : Int32)) + (1 : Int32)))])) _
    refine XS.istore X0.here hx rfl (hb hby at_5) rfl (l' := #[.val (.int p0), .val (.int p1), .val (.int p2), .val (.int p3), .val (.int p4), .val (.int p5), .val (.int ((p0 &&& (3 : Int32)) + (1 : Int32))), .unset, .unset, .unset, .unset, .unset, .unset, .unset, .unset, .unset, .unset, .unset, .unset, .unset, .unset]) rfl ?_
    show Steps p.tables e below (s₁.setTop (mkF m 7 #[.val (.int p0), .val (.int p1), .val (.int p2), .val (.int p3), .val (.int p4), .val (.int p5), .val (.int ((p0 &&& (3 : Int32)) + (1 : Int32))), .unset, .unset, .unset, .unset, .unset, .unset, .unset, .unset, .unset, .unset, .unset, .unset, .unset, .unset] [])) _
    rw [← h_n]
    show Steps p.tables e below (s₁.setTop (mkF m 7 #[.val (.int p0), .val (.int p1), .val (.int p2), .val (.int p3), .val (.int p4), .val (.int p5), .val (.int n), .unset, .unset, .unset, .unset, .unset, .unset, .unset, .unset, .unset, .unset, .unset, .unset, .unset, .unset] [])) _
    refine XS.iloadN X0.here hx rfl (hb hby at_7) rfl ?_
    show Steps p.tables e below (s₁.setTop (mkF m 8 #[.val (.int p0), .val (.int p1), .val (.int p2), .val (.int p3), .val (.int p4), .val (.int p5), .val (.int n), .unset, .unset, .unset, .unset, .unset, .unset, .unset, .unset, .unset, .unset, .unset, .unset, .unset, .unset] [(.int p1)])) _
    refine XS.iconst X0.here hx rfl (hb hby at_8) ?_
    show Steps p.tables e below (s₁.setTop (mkF m 9 #[.val (.int p0), .val (.int p1), .val (.int p2), .val (.int p3), .val (.int p4), .val (.int p5), .val (.int n), .unset, .unset, .unset, .unset, .unset, .unset, .unset, .unset, .unset, .unset, .unset, .unset, .unset, .unset] [(.int (1 : Int32)), (.int p1)])) _
    refine XS.iand X0.here hx rfl (hb hby at_9) rfl ?_
    show Steps p.tables e below (s₁.setTop (mkF m 10 #[.val (.int p0), .val (.int p1), .val (.int p2), .val (.int p3), .val (.int p4), .val (.int p5), .val (.int n), .unset, .unset, .unset, .unset, .unset, .unset, .unset, .unset, .unset, .unset, .unset, .unset, .unset, .unset] [(.int (p1 &&& (1 : Int32)))])) _
    refine XS.istore X0.here hx rfl (hb hby at_10) rfl (l' := #[.val (.int p0), .val (.int p1), .val (.int p2), .val (.int p3), .val (.int p4), .val (.int p5), .val (.int n), .val (.int (p1 &&& (1 : Int32))), .unset, .unset, .unset, .unset, .unset, .unset, .unset, .unset, .unset, .unset, .unset, .unset, .unset]) rfl ?_
    show Steps p.tables e below (s₁.setTop (mkF m 12 #[.val (.int p0), .val (.int p1), .val (.int p2), .val (.int p3), .val (.int p4), .val (.int p5), .val (.int n), .val (.int (p1 &&& (1 : Int32))), .unset, .unset, .unset, .unset, .unset, .unset, .unset, .unset, .unset, .unset, .unset, .unset, .unset] [])) _
    rw [← h_sa]
    show Steps p.tables e below (s₁.setTop (mkF m 12 #[.val (.int p0), .val (.int p1), .val (.int p2), .val (.int p3), .val (.int p4), .val (.int p5), .val (.int n), .val (.int sa), .unset, .unset, .unset, .unset, .unset, .unset, .unset, .unset, .unset, .unset, .unset, .unset, .unset] [])) _
    refine XS.iloadN X0.here hx rfl (hb hby at_12) rfl ?_
    show Steps p.tables e below (s₁.setTop (mkF m 13 #[.val (.int p0), .val (.int p1), .val (.int p2), .val (.int p3), .val (.int p4), .val (.int p5), .val (.int n), .val (.int sa), .unset, .unset, .unset, .unset, .unset, .unset, .unset, .unset, .unset, .unset, .unset, .unset, .unset] [(.int p1)])) _
    refine XS.iconst X0.here hx rfl (hb hby at_13) ?_
    show Steps p.tables e below (s₁.setTop (mkF m 14 #[.val (.int p0), .val (.int p1), .val (.int p2), .val (.int p3), .val (.int p4), .val (.int p5), .val (.int n), .val (.int sa), .unset, .unset, .unset, .unset, .unset, .unset, .unset, .unset, .unset, .unset, .unset, .unset, .unset] [(.int (1 : Int32)), (.int p1)])) _
    refine XS.iushr X0.here hx rfl (hb hby at_14) rfl ?_
    show Steps p.tables e below (s₁.setTop (mkF m 15 #[.val (.int p0), .val (.int p1), .val (.int p2), .val (.int p3), .val (.int p4), .val (.int p5), .val (.int n), .val (.int sa), .unset, .unset, .unset, .unset, .unset, .unset, .unset, .unset, .unset, .unset, .unset, .unset, .unset] [(.int ((p1.toUInt32 >>> ((1 : Int32) &&& 31).toUInt32).toInt32))])) _
    refine XS.iload X0.here hx rfl (hb hby at_15) rfl ?_
    show Steps p.tables e below (s₁.setTop (mkF m 17 #[.val (.int p0), .val (.int p1), .val (.int p2), .val (.int p3), .val (.int p4), .val (.int p5), .val (.int n), .val (.int sa), .unset, .unset, .unset, .unset, .unset, .unset, .unset, .unset, .unset, .unset, .unset, .unset, .unset] [(.int n), (.int ((p1.toUInt32 >>> ((1 : Int32) &&& 31).toUInt32).toInt32))])) _
    refine iremM X0 hx rfl (hb hby at_17) rfl (own_nz hfour) ?_
    show Steps p.tables e below (s₁.setTop (mkF m 18 #[.val (.int p0), .val (.int p1), .val (.int p2), .val (.int p3), .val (.int p4), .val (.int p5), .val (.int n), .val (.int sa), .unset, .unset, .unset, .unset, .unset, .unset, .unset, .unset, .unset, .unset, .unset, .unset, .unset] [(.int (((p1.toUInt32 >>> ((1 : Int32) &&& 31).toUInt32).toInt32) % n))])) _
    refine XS.istore X0.here hx rfl (hb hby at_18) rfl (l' := #[.val (.int p0), .val (.int p1), .val (.int p2), .val (.int p3), .val (.int p4), .val (.int p5), .val (.int n), .val (.int sa), .val (.int (((p1.toUInt32 >>> ((1 : Int32) &&& 31).toUInt32).toInt32) % n)), .unset, .unset, .unset, .unset, .unset, .unset, .unset, .unset, .unset, .unset, .unset, .unset]) rfl ?_
    show Steps p.tables e below (s₁.setTop (mkF m 20 #[.val (.int p0), .val (.int p1), .val (.int p2), .val (.int p3), .val (.int p4), .val (.int p5), .val (.int n), .val (.int sa), .val (.int (((p1.toUInt32 >>> ((1 : Int32) &&& 31).toUInt32).toInt32) % n)), .unset, .unset, .unset, .unset, .unset, .unset, .unset, .unset, .unset, .unset, .unset, .unset] [])) _
    rw [← h_pa]
    show Steps p.tables e below (s₁.setTop (mkF m 20 #[.val (.int p0), .val (.int p1), .val (.int p2), .val (.int p3), .val (.int p4), .val (.int p5), .val (.int n), .val (.int sa), .val (.int pa), .unset, .unset, .unset, .unset, .unset, .unset, .unset, .unset, .unset, .unset, .unset, .unset] [])) _
    refine XS.iloadN X0.here hx rfl (hb hby at_20) rfl ?_
    show Steps p.tables e below (s₁.setTop (mkF m 21 #[.val (.int p0), .val (.int p1), .val (.int p2), .val (.int p3), .val (.int p4), .val (.int p5), .val (.int n), .val (.int sa), .val (.int pa), .unset, .unset, .unset, .unset, .unset, .unset, .unset, .unset, .unset, .unset, .unset, .unset] [(.int p2)])) _
    refine XS.iconst X0.here hx rfl (hb hby at_21) ?_
    show Steps p.tables e below (s₁.setTop (mkF m 22 #[.val (.int p0), .val (.int p1), .val (.int p2), .val (.int p3), .val (.int p4), .val (.int p5), .val (.int n), .val (.int sa), .val (.int pa), .unset, .unset, .unset, .unset, .unset, .unset, .unset, .unset, .unset, .unset, .unset, .unset] [(.int (1 : Int32)), (.int p2)])) _
    refine XS.iand X0.here hx rfl (hb hby at_22) rfl ?_
    show Steps p.tables e below (s₁.setTop (mkF m 23 #[.val (.int p0), .val (.int p1), .val (.int p2), .val (.int p3), .val (.int p4), .val (.int p5), .val (.int n), .val (.int sa), .val (.int pa), .unset, .unset, .unset, .unset, .unset, .unset, .unset, .unset, .unset, .unset, .unset, .unset] [(.int (p2 &&& (1 : Int32)))])) _
    refine XS.istore X0.here hx rfl (hb hby at_23) rfl (l' := #[.val (.int p0), .val (.int p1), .val (.int p2), .val (.int p3), .val (.int p4), .val (.int p5), .val (.int n), .val (.int sa), .val (.int pa), .val (.int (p2 &&& (1 : Int32))), .unset, .unset, .unset, .unset, .unset, .unset, .unset, .unset, .unset, .unset, .unset]) rfl ?_
    show Steps p.tables e below (s₁.setTop (mkF m 25 #[.val (.int p0), .val (.int p1), .val (.int p2), .val (.int p3), .val (.int p4), .val (.int p5), .val (.int n), .val (.int sa), .val (.int pa), .val (.int (p2 &&& (1 : Int32))), .unset, .unset, .unset, .unset, .unset, .unset, .unset, .unset, .unset, .unset, .unset] [])) _
    rw [← h_sb]
    show Steps p.tables e below (s₁.setTop (mkF m 25 #[.val (.int p0), .val (.int p1), .val (.int p2), .val (.int p3), .val (.int p4), .val (.int p5), .val (.int n), .val (.int sa), .val (.int pa), .val (.int sb), .unset, .unset, .unset, .unset, .unset, .unset, .unset, .unset, .unset, .unset, .unset] [])) _
    refine XS.iloadN X0.here hx rfl (hb hby at_25) rfl ?_
    show Steps p.tables e below (s₁.setTop (mkF m 26 #[.val (.int p0), .val (.int p1), .val (.int p2), .val (.int p3), .val (.int p4), .val (.int p5), .val (.int n), .val (.int sa), .val (.int pa), .val (.int sb), .unset, .unset, .unset, .unset, .unset, .unset, .unset, .unset, .unset, .unset, .unset] [(.int p2)])) _
    refine XS.iconst X0.here hx rfl (hb hby at_26) ?_
    show Steps p.tables e below (s₁.setTop (mkF m 27 #[.val (.int p0), .val (.int p1), .val (.int p2), .val (.int p3), .val (.int p4), .val (.int p5), .val (.int n), .val (.int sa), .val (.int pa), .val (.int sb), .unset, .unset, .unset, .unset, .unset, .unset, .unset, .unset, .unset, .unset, .unset] [(.int (1 : Int32)), (.int p2)])) _
    refine XS.iushr X0.here hx rfl (hb hby at_27) rfl ?_
    show Steps p.tables e below (s₁.setTop (mkF m 28 #[.val (.int p0), .val (.int p1), .val (.int p2), .val (.int p3), .val (.int p4), .val (.int p5), .val (.int n), .val (.int sa), .val (.int pa), .val (.int sb), .unset, .unset, .unset, .unset, .unset, .unset, .unset, .unset, .unset, .unset, .unset] [(.int ((p2.toUInt32 >>> ((1 : Int32) &&& 31).toUInt32).toInt32))])) _
    refine XS.iload X0.here hx rfl (hb hby at_28) rfl ?_
    show Steps p.tables e below (s₁.setTop (mkF m 30 #[.val (.int p0), .val (.int p1), .val (.int p2), .val (.int p3), .val (.int p4), .val (.int p5), .val (.int n), .val (.int sa), .val (.int pa), .val (.int sb), .unset, .unset, .unset, .unset, .unset, .unset, .unset, .unset, .unset, .unset, .unset] [(.int n), (.int ((p2.toUInt32 >>> ((1 : Int32) &&& 31).toUInt32).toInt32))])) _
    refine iremM X0 hx rfl (hb hby at_30) rfl (own_nz hfour) ?_
    show Steps p.tables e below (s₁.setTop (mkF m 31 #[.val (.int p0), .val (.int p1), .val (.int p2), .val (.int p3), .val (.int p4), .val (.int p5), .val (.int n), .val (.int sa), .val (.int pa), .val (.int sb), .unset, .unset, .unset, .unset, .unset, .unset, .unset, .unset, .unset, .unset, .unset] [(.int (((p2.toUInt32 >>> ((1 : Int32) &&& 31).toUInt32).toInt32) % n))])) _
    refine XS.istore X0.here hx rfl (hb hby at_31) rfl (l' := #[.val (.int p0), .val (.int p1), .val (.int p2), .val (.int p3), .val (.int p4), .val (.int p5), .val (.int n), .val (.int sa), .val (.int pa), .val (.int sb), .val (.int (((p2.toUInt32 >>> ((1 : Int32) &&& 31).toUInt32).toInt32) % n)), .unset, .unset, .unset, .unset, .unset, .unset, .unset, .unset, .unset, .unset]) rfl ?_
    show Steps p.tables e below (s₁.setTop (mkF m 33 #[.val (.int p0), .val (.int p1), .val (.int p2), .val (.int p3), .val (.int p4), .val (.int p5), .val (.int n), .val (.int sa), .val (.int pa), .val (.int sb), .val (.int (((p2.toUInt32 >>> ((1 : Int32) &&& 31).toUInt32).toInt32) % n)), .unset, .unset, .unset, .unset, .unset, .unset, .unset, .unset, .unset, .unset] [])) _
    rw [← h_pb]
    show Steps p.tables e below (s₁.setTop (mkF m 33 #[.val (.int p0), .val (.int p1), .val (.int p2), .val (.int p3), .val (.int p4), .val (.int p5), .val (.int n), .val (.int sa), .val (.int pa), .val (.int sb), .val (.int pb), .unset, .unset, .unset, .unset, .unset, .unset, .unset, .unset, .unset, .unset] [])) _
    refine XS.iloadN X0.here hx rfl (hb hby at_33) rfl ?_
    show Steps p.tables e below (s₁.setTop (mkF m 34 #[.val (.int p0), .val (.int p1), .val (.int p2), .val (.int p3), .val (.int p4), .val (.int p5), .val (.int n), .val (.int sa), .val (.int pa), .val (.int sb), .val (.int pb), .unset, .unset, .unset, .unset, .unset, .unset, .unset, .unset, .unset, .unset] [(.int p3)])) _
    refine XS.iconst X0.here hx rfl (hb hby at_34) ?_
    show Steps p.tables e below (s₁.setTop (mkF m 35 #[.val (.int p0), .val (.int p1), .val (.int p2), .val (.int p3), .val (.int p4), .val (.int p5), .val (.int n), .val (.int sa), .val (.int pa), .val (.int sb), .val (.int pb), .unset, .unset, .unset, .unset, .unset, .unset, .unset, .unset, .unset, .unset] [(.int (1 : Int32)), (.int p3)])) _
    refine XS.iand X0.here hx rfl (hb hby at_35) rfl ?_
    show Steps p.tables e below (s₁.setTop (mkF m 36 #[.val (.int p0), .val (.int p1), .val (.int p2), .val (.int p3), .val (.int p4), .val (.int p5), .val (.int n), .val (.int sa), .val (.int pa), .val (.int sb), .val (.int pb), .unset, .unset, .unset, .unset, .unset, .unset, .unset, .unset, .unset, .unset] [(.int (p3 &&& (1 : Int32)))])) _
    refine XS.istore X0.here hx rfl (hb hby at_36) rfl (l' := #[.val (.int p0), .val (.int p1), .val (.int p2), .val (.int p3), .val (.int p4), .val (.int p5), .val (.int n), .val (.int sa), .val (.int pa), .val (.int sb), .val (.int pb), .val (.int (p3 &&& (1 : Int32))), .unset, .unset, .unset, .unset, .unset, .unset, .unset, .unset, .unset]) rfl ?_
    show Steps p.tables e below (s₁.setTop (mkF m 38 #[.val (.int p0), .val (.int p1), .val (.int p2), .val (.int p3), .val (.int p4), .val (.int p5), .val (.int n), .val (.int sa), .val (.int pa), .val (.int sb), .val (.int pb), .val (.int (p3 &&& (1 : Int32))), .unset, .unset, .unset, .unset, .unset, .unset, .unset, .unset, .unset] [])) _
    rw [← h_sc]
    show Steps p.tables e below (s₁.setTop (mkF m 38 #[.val (.int p0), .val (.int p1), .val (.int p2), .val (.int p3), .val (.int p4), .val (.int p5), .val (.int n), .val (.int sa), .val (.int pa), .val (.int sb), .val (.int pb), .val (.int sc), .unset, .unset, .unset, .unset, .unset, .unset, .unset, .unset, .unset] [])) _
    refine XS.iloadN X0.here hx rfl (hb hby at_38) rfl ?_
    show Steps p.tables e below (s₁.setTop (mkF m 39 #[.val (.int p0), .val (.int p1), .val (.int p2), .val (.int p3), .val (.int p4), .val (.int p5), .val (.int n), .val (.int sa), .val (.int pa), .val (.int sb), .val (.int pb), .val (.int sc), .unset, .unset, .unset, .unset, .unset, .unset, .unset, .unset, .unset] [(.int p3)])) _
    refine XS.iconst X0.here hx rfl (hb hby at_39) ?_
    show Steps p.tables e below (s₁.setTop (mkF m 40 #[.val (.int p0), .val (.int p1), .val (.int p2), .val (.int p3), .val (.int p4), .val (.int p5), .val (.int n), .val (.int sa), .val (.int pa), .val (.int sb), .val (.int pb), .val (.int sc), .unset, .unset, .unset, .unset, .unset, .unset, .unset, .unset, .unset] [(.int (1 : Int32)), (.int p3)])) _
    refine XS.iushr X0.here hx rfl (hb hby at_40) rfl ?_
    show Steps p.tables e below (s₁.setTop (mkF m 41 #[.val (.int p0), .val (.int p1), .val (.int p2), .val (.int p3), .val (.int p4), .val (.int p5), .val (.int n), .val (.int sa), .val (.int pa), .val (.int sb), .val (.int pb), .val (.int sc), .unset, .unset, .unset, .unset, .unset, .unset, .unset, .unset, .unset] [(.int ((p3.toUInt32 >>> ((1 : Int32) &&& 31).toUInt32).toInt32))])) _
    refine XS.iload X0.here hx rfl (hb hby at_41) rfl ?_
    show Steps p.tables e below (s₁.setTop (mkF m 43 #[.val (.int p0), .val (.int p1), .val (.int p2), .val (.int p3), .val (.int p4), .val (.int p5), .val (.int n), .val (.int sa), .val (.int pa), .val (.int sb), .val (.int pb), .val (.int sc), .unset, .unset, .unset, .unset, .unset, .unset, .unset, .unset, .unset] [(.int n), (.int ((p3.toUInt32 >>> ((1 : Int32) &&& 31).toUInt32).toInt32))])) _
    refine iremM X0 hx rfl (hb hby at_43) rfl (own_nz hfour) ?_
    show Steps p.tables e below (s₁.setTop (mkF m 44 #[.val (.int p0), .val (.int p1), .val (.int p2), .val (.int p3), .val (.int p4), .val (.int p5), .val (.int n), .val (.int sa), .val (.int pa), .val (.int sb), .val (.int pb), .val (.int sc), .unset, .unset, .unset, .unset, .unset, .unset, .unset, .unset, .unset] [(.int (((p3.toUInt32 >>> ((1 : Int32) &&& 31).toUInt32).toInt32) % n))])) _
    refine XS.istore X0.here hx rfl (hb hby at_44) rfl (l' := #[.val (.int p0), .val (.int p1), .val (.int p2), .val (.int p3), .val (.int p4), .val (.int p5), .val (.int n), .val (.int sa), .val (.int pa), .val (.int sb), .val (.int pb), .val (.int sc), .val (.int (((p3.toUInt32 >>> ((1 : Int32) &&& 31).toUInt32).toInt32) % n)), .unset, .unset, .unset, .unset, .unset, .unset, .unset, .unset]) rfl ?_
    show Steps p.tables e below (s₁.setTop (mkF m 46 #[.val (.int p0), .val (.int p1), .val (.int p2), .val (.int p3), .val (.int p4), .val (.int p5), .val (.int n), .val (.int sa), .val (.int pa), .val (.int sb), .val (.int pb), .val (.int sc), .val (.int (((p3.toUInt32 >>> ((1 : Int32) &&& 31).toUInt32).toInt32) % n)), .unset, .unset, .unset, .unset, .unset, .unset, .unset, .unset] [])) _
    rw [← h_pc]
    show Steps p.tables e below (s₁.setTop (mkF m 46 #[.val (.int p0), .val (.int p1), .val (.int p2), .val (.int p3), .val (.int p4), .val (.int p5), .val (.int n), .val (.int sa), .val (.int pa), .val (.int sb), .val (.int pb), .val (.int sc), .val (.int pc), .unset, .unset, .unset, .unset, .unset, .unset, .unset, .unset] [])) _
    refine XS.iloadN X0.here hx rfl (hb hby at_46) rfl ?_
    show Steps p.tables e below (s₁.setTop (mkF m 47 #[.val (.int p0), .val (.int p1), .val (.int p2), .val (.int p3), .val (.int p4), .val (.int p5), .val (.int n), .val (.int sa), .val (.int pa), .val (.int sb), .val (.int pb), .val (.int sc), .val (.int pc), .unset, .unset, .unset, .unset, .unset, .unset, .unset, .unset] [(.int p0)])) _
    refine XS.iconst X0.here hx rfl (hb hby at_47) ?_
    show Steps p.tables e below (s₁.setTop (mkF m 48 #[.val (.int p0), .val (.int p1), .val (.int p2), .val (.int p3), .val (.int p4), .val (.int p5), .val (.int n), .val (.int sa), .val (.int pa), .val (.int sb), .val (.int pb), .val (.int sc), .val (.int pc), .unset, .unset, .unset, .unset, .unset, .unset, .unset, .unset] [(.int (4 : Int32)), (.int p0)])) _
    refine XS.ishr X0.here hx rfl (hb hby at_48) rfl ?_
    show Steps p.tables e below (s₁.setTop (mkF m 49 #[.val (.int p0), .val (.int p1), .val (.int p2), .val (.int p3), .val (.int p4), .val (.int p5), .val (.int n), .val (.int sa), .val (.int pa), .val (.int sb), .val (.int pb), .val (.int sc), .val (.int pc), .unset, .unset, .unset, .unset, .unset, .unset, .unset, .unset] [(.int (p0 >>> ((4 : Int32) &&& 31)))])) _
    refine XS.iconst X0.here hx rfl (hb hby at_49) ?_
    show Steps p.tables e below (s₁.setTop (mkF m 50 #[.val (.int p0), .val (.int p1), .val (.int p2), .val (.int p3), .val (.int p4), .val (.int p5), .val (.int n), .val (.int sa), .val (.int pa), .val (.int sb), .val (.int pb), .val (.int sc), .val (.int pc), .unset, .unset, .unset, .unset, .unset, .unset, .unset, .unset] [(.int (1 : Int32)), (.int (p0 >>> ((4 : Int32) &&& 31)))])) _
    refine XS.iand X0.here hx rfl (hb hby at_50) rfl ?_
    refine st1 _ ?_
    show Steps p.tables e below (T1.setTop (mkF m 59 #[.val (.int p0), .val (.int p1), .val (.int p2), .val (.int p3), .val (.int p4), .val (.int p5), .val (.int n), .val (.int sa), .val (.int pa), .val (.int sb), .val (.int pb), .val (.int sc), .val (.int pc), .unset, .unset, .unset, .unset, .unset, .unset, .unset, .unset] [(.int wA)])) _
    refine XS.istore X1.here hx rfl (hb hby at_59) rfl (l' := #[.val (.int p0), .val (.int p1), .val (.int p2), .val (.int p3), .val (.int p4), .val (.int p5), .val (.int n), .val (.int sa), .val (.int pa), .val (.int sb), .val (.int pb), .val (.int sc), .val (.int pc), .val (.int wA), .unset, .unset, .unset, .unset, .unset, .unset, .unset]) rfl ?_
    show Steps p.tables e below (T1.setTop (mkF m 61 #[.val (.int p0), .val (.int p1), .val (.int p2), .val (.int p3), .val (.int p4), .val (.int p5), .val (.int n), .val (.int sa), .val (.int pa), .val (.int sb), .val (.int pb), .val (.int sc), .val (.int pc), .val (.int wA), .unset, .unset, .unset, .unset, .unset, .unset, .unset] [])) _
    refine XS.iloadN X1.here hx rfl (hb hby at_61) rfl ?_
    show Steps p.tables e below (T1.setTop (mkF m 62 #[.val (.int p0), .val (.int p1), .val (.int p2), .val (.int p3), .val (.int p4), .val (.int p5), .val (.int n), .val (.int sa), .val (.int pa), .val (.int sb), .val (.int pb), .val (.int sc), .val (.int pc), .val (.int wA), .unset, .unset, .unset, .unset, .unset, .unset, .unset] [(.int p0)])) _
    refine XS.iconst X1.here hx rfl (hb hby at_62) ?_
    show Steps p.tables e below (T1.setTop (mkF m 63 #[.val (.int p0), .val (.int p1), .val (.int p2), .val (.int p3), .val (.int p4), .val (.int p5), .val (.int n), .val (.int sa), .val (.int pa), .val (.int sb), .val (.int pb), .val (.int sc), .val (.int pc), .val (.int wA), .unset, .unset, .unset, .unset, .unset, .unset, .unset] [(.int (5 : Int32)), (.int p0)])) _
    refine XS.ishr X1.here hx rfl (hb hby at_63) rfl ?_
    show Steps p.tables e below (T1.setTop (mkF m 64 #[.val (.int p0), .val (.int p1), .val (.int p2), .val (.int p3), .val (.int p4), .val (.int p5), .val (.int n), .val (.int sa), .val (.int pa), .val (.int sb), .val (.int pb), .val (.int sc), .val (.int pc), .val (.int wA), .unset, .unset, .unset, .unset, .unset, .unset, .unset] [(.int (p0 >>> ((5 : Int32) &&& 31)))])) _
    refine XS.iconst X1.here hx rfl (hb hby at_64) ?_
    show Steps p.tables e below (T1.setTop (mkF m 65 #[.val (.int p0), .val (.int p1), .val (.int p2), .val (.int p3), .val (.int p4), .val (.int p5), .val (.int n), .val (.int sa), .val (.int pa), .val (.int sb), .val (.int pb), .val (.int sc), .val (.int pc), .val (.int wA), .unset, .unset, .unset, .unset, .unset, .unset, .unset] [(.int (1 : Int32)), (.int (p0 >>> ((5 : Int32) &&& 31)))])) _
    refine XS.iand X1.here hx rfl (hb hby at_65) rfl ?_
    refine st2 _ ?_
    show Steps p.tables e below (T2.setTop (mkF m 74 #[.val (.int p0), .val (.int p1), .val (.int p2), .val (.int p3), .val (.int p4), .val (.int p5), .val (.int n), .val (.int sa), .val (.int pa), .val (.int sb), .val (.int pb), .val (.int sc), .val (.int pc), .val (.int wA), .unset, .unset, .unset, .unset, .unset, .unset, .unset] [(.int atA)])) _
    refine XS.istore X2.here hx rfl (hb hby at_74) rfl (l' := #[.val (.int p0), .val (.int p1), .val (.int p2), .val (.int p3), .val (.int p4), .val (.int p5), .val (.int n), .val (.int sa), .val (.int pa), .val (.int sb), .val (.int pb), .val (.int sc), .val (.int pc), .val (.int wA), .val (.int atA), .unset, .unset, .unset, .unset, .unset, .unset]) rfl ?_
    show Steps p.tables e below (T2.setTop (mkF m 76 #[.val (.int p0), .val (.int p1), .val (.int p2), .val (.int p3), .val (.int p4), .val (.int p5), .val (.int n), .val (.int sa), .val (.int pa), .val (.int sb), .val (.int pb), .val (.int sc), .val (.int pc), .val (.int wA), .val (.int atA), .unset, .unset, .unset, .unset, .unset, .unset] [])) _
    refine XS.iloadN X2.here hx rfl (hb hby at_76) rfl ?_
    show Steps p.tables e below (T2.setTop (mkF m 77 #[.val (.int p0), .val (.int p1), .val (.int p2), .val (.int p3), .val (.int p4), .val (.int p5), .val (.int n), .val (.int sa), .val (.int pa), .val (.int sb), .val (.int pb), .val (.int sc), .val (.int pc), .val (.int wA), .val (.int atA), .unset, .unset, .unset, .unset, .unset, .unset] [(.int p0)])) _
    refine XS.bipush X2.here hx rfl (hb hby at_77) ?_
    show Steps p.tables e below (T2.setTop (mkF m 79 #[.val (.int p0), .val (.int p1), .val (.int p2), .val (.int p3), .val (.int p4), .val (.int p5), .val (.int n), .val (.int sa), .val (.int pa), .val (.int sb), .val (.int pb), .val (.int sc), .val (.int pc), .val (.int wA), .val (.int atA), .unset, .unset, .unset, .unset, .unset, .unset] [(.int (8 : Int32)), (.int p0)])) _
    refine XS.ishr X2.here hx rfl (hb hby at_79) rfl ?_
    show Steps p.tables e below (T2.setTop (mkF m 80 #[.val (.int p0), .val (.int p1), .val (.int p2), .val (.int p3), .val (.int p4), .val (.int p5), .val (.int n), .val (.int sa), .val (.int pa), .val (.int sb), .val (.int pb), .val (.int sc), .val (.int pc), .val (.int wA), .val (.int atA), .unset, .unset, .unset, .unset, .unset, .unset] [(.int (p0 >>> ((8 : Int32) &&& 31)))])) _
    refine XS.iconst X2.here hx rfl (hb hby at_80) ?_
    show Steps p.tables e below (T2.setTop (mkF m 81 #[.val (.int p0), .val (.int p1), .val (.int p2), .val (.int p3), .val (.int p4), .val (.int p5), .val (.int n), .val (.int sa), .val (.int pa), .val (.int sb), .val (.int pb), .val (.int sc), .val (.int pc), .val (.int wA), .val (.int atA), .unset, .unset, .unset, .unset, .unset, .unset] [(.int (1 : Int32)), (.int (p0 >>> ((8 : Int32) &&& 31)))])) _
    refine XS.iand X2.here hx rfl (hb hby at_81) rfl ?_
    refine st3 _ ?_
    show Steps p.tables e below (T3.setTop (mkF m 90 #[.val (.int p0), .val (.int p1), .val (.int p2), .val (.int p3), .val (.int p4), .val (.int p5), .val (.int n), .val (.int sa), .val (.int pa), .val (.int sb), .val (.int pb), .val (.int sc), .val (.int pc), .val (.int wA), .val (.int atA), .unset, .unset, .unset, .unset, .unset, .unset] [(.int wB)])) _
    refine XS.istore X3.here hx rfl (hb hby at_90) rfl (l' := #[.val (.int p0), .val (.int p1), .val (.int p2), .val (.int p3), .val (.int p4), .val (.int p5), .val (.int n), .val (.int sa), .val (.int pa), .val (.int sb), .val (.int pb), .val (.int sc), .val (.int pc), .val (.int wA), .val (.int atA), .val (.int wB), .unset, .unset, .unset, .unset, .unset]) rfl ?_
    show Steps p.tables e below (T3.setTop (mkF m 92 #[.val (.int p0), .val (.int p1), .val (.int p2), .val (.int p3), .val (.int p4), .val (.int p5), .val (.int n), .val (.int sa), .val (.int pa), .val (.int sb), .val (.int pb), .val (.int sc), .val (.int pc), .val (.int wA), .val (.int atA), .val (.int wB), .unset, .unset, .unset, .unset, .unset] [])) _
    refine XS.iloadN X3.here hx rfl (hb hby at_92) rfl ?_
    show Steps p.tables e below (T3.setTop (mkF m 93 #[.val (.int p0), .val (.int p1), .val (.int p2), .val (.int p3), .val (.int p4), .val (.int p5), .val (.int n), .val (.int sa), .val (.int pa), .val (.int sb), .val (.int pb), .val (.int sc), .val (.int pc), .val (.int wA), .val (.int atA), .val (.int wB), .unset, .unset, .unset, .unset, .unset] [(.int p0)])) _
    refine XS.bipush X3.here hx rfl (hb hby at_93) ?_
    show Steps p.tables e below (T3.setTop (mkF m 95 #[.val (.int p0), .val (.int p1), .val (.int p2), .val (.int p3), .val (.int p4), .val (.int p5), .val (.int n), .val (.int sa), .val (.int pa), .val (.int sb), .val (.int pb), .val (.int sc), .val (.int pc), .val (.int wA), .val (.int atA), .val (.int wB), .unset, .unset, .unset, .unset, .unset] [(.int (9 : Int32)), (.int p0)])) _
    refine XS.ishr X3.here hx rfl (hb hby at_95) rfl ?_
    show Steps p.tables e below (T3.setTop (mkF m 96 #[.val (.int p0), .val (.int p1), .val (.int p2), .val (.int p3), .val (.int p4), .val (.int p5), .val (.int n), .val (.int sa), .val (.int pa), .val (.int sb), .val (.int pb), .val (.int sc), .val (.int pc), .val (.int wA), .val (.int atA), .val (.int wB), .unset, .unset, .unset, .unset, .unset] [(.int (p0 >>> ((9 : Int32) &&& 31)))])) _
    refine XS.iconst X3.here hx rfl (hb hby at_96) ?_
    show Steps p.tables e below (T3.setTop (mkF m 97 #[.val (.int p0), .val (.int p1), .val (.int p2), .val (.int p3), .val (.int p4), .val (.int p5), .val (.int n), .val (.int sa), .val (.int pa), .val (.int sb), .val (.int pb), .val (.int sc), .val (.int pc), .val (.int wA), .val (.int atA), .val (.int wB), .unset, .unset, .unset, .unset, .unset] [(.int (1 : Int32)), (.int (p0 >>> ((9 : Int32) &&& 31)))])) _
    refine XS.iand X3.here hx rfl (hb hby at_97) rfl ?_
    refine st4 _ ?_
    show Steps p.tables e below (T4.setTop (mkF m 106 #[.val (.int p0), .val (.int p1), .val (.int p2), .val (.int p3), .val (.int p4), .val (.int p5), .val (.int n), .val (.int sa), .val (.int pa), .val (.int sb), .val (.int pb), .val (.int sc), .val (.int pc), .val (.int wA), .val (.int atA), .val (.int wB), .unset, .unset, .unset, .unset, .unset] [(.int atB)])) _
    refine XS.istore X4.here hx rfl (hb hby at_106) rfl (l' := #[.val (.int p0), .val (.int p1), .val (.int p2), .val (.int p3), .val (.int p4), .val (.int p5), .val (.int n), .val (.int sa), .val (.int pa), .val (.int sb), .val (.int pb), .val (.int sc), .val (.int pc), .val (.int wA), .val (.int atA), .val (.int wB), .val (.int atB), .unset, .unset, .unset, .unset]) rfl ?_
    show Steps p.tables e below (T4.setTop (mkF m 108 #[.val (.int p0), .val (.int p1), .val (.int p2), .val (.int p3), .val (.int p4), .val (.int p5), .val (.int n), .val (.int sa), .val (.int pa), .val (.int sb), .val (.int pb), .val (.int sc), .val (.int pc), .val (.int wA), .val (.int atA), .val (.int wB), .val (.int atB), .unset, .unset, .unset, .unset] [])) _
    refine st5 _ ?_
    show Steps p.tables e below (T5.setTop (mkF m 111 #[.val (.int p0), .val (.int p1), .val (.int p2), .val (.int p3), .val (.int p4), .val (.int p5), .val (.int n), .val (.int sa), .val (.int pa), .val (.int sb), .val (.int pb), .val (.int sc), .val (.int pc), .val (.int wA), .val (.int atA), .val (.int wB), .val (.int atB), .unset, .unset, .unset, .unset] [(.ref g)])) _
    refine XS.dup X5.here hx rfl (hb hby at_111) rfl rfl ?_
    show Steps p.tables e below (T5.setTop (mkF m 112 #[.val (.int p0), .val (.int p1), .val (.int p2), .val (.int p3), .val (.int p4), .val (.int p5), .val (.int n), .val (.int sa), .val (.int pa), .val (.int sb), .val (.int pb), .val (.int sc), .val (.int pc), .val (.int wA), .val (.int atA), .val (.int wB), .val (.int atB), .unset, .unset, .unset, .unset] [(.ref g), (.ref g)])) _
    refine XS.iload X5.here hx rfl (hb hby at_112) rfl ?_
    show Steps p.tables e below (T5.setTop (mkF m 114 #[.val (.int p0), .val (.int p1), .val (.int p2), .val (.int p3), .val (.int p4), .val (.int p5), .val (.int n), .val (.int sa), .val (.int pa), .val (.int sb), .val (.int pb), .val (.int sc), .val (.int pc), .val (.int wA), .val (.int atA), .val (.int wB), .val (.int atB), .unset, .unset, .unset, .unset] [(.int n), (.ref g), (.ref g)])) _
    refine XS.iconst X5.here hx rfl (hb hby at_114) ?_
    show Steps p.tables e below (T5.setTop (mkF m 115 #[.val (.int p0), .val (.int p1), .val (.int p2), .val (.int p3), .val (.int p4), .val (.int p5), .val (.int n), .val (.int sa), .val (.int pa), .val (.int sb), .val (.int pb), .val (.int sc), .val (.int pc), .val (.int wA), .val (.int atA), .val (.int wB), .val (.int atB), .unset, .unset, .unset, .unset] [(.int (1 : Int32)), (.int n), (.ref g), (.ref g)])) _
    refine st6.trans ?_
    show Steps p.tables e below (T6.setTop (mkF m 118 #[.val (.int p0), .val (.int p1), .val (.int p2), .val (.int p3), .val (.int p4), .val (.int p5), .val (.int n), .val (.int sa), .val (.int pa), .val (.int sb), .val (.int pb), .val (.int sc), .val (.int pc), .val (.int wA), .val (.int atA), .val (.int wB), .val (.int atB), .unset, .unset, .unset, .unset] [(.ref g)])) _
    refine XS.astore X6.here hx rfl (hb hby at_118) rfl rfl (l' := #[.val (.int p0), .val (.int p1), .val (.int p2), .val (.int p3), .val (.int p4), .val (.int p5), .val (.int n), .val (.int sa), .val (.int pa), .val (.int sb), .val (.int pb), .val (.int sc), .val (.int pc), .val (.int wA), .val (.int atA), .val (.int wB), .val (.int atB), .val (.ref g), .unset, .unset, .unset]) rfl ?_
    show Steps p.tables e below (T6.setTop (mkF m 120 #[.val (.int p0), .val (.int p1), .val (.int p2), .val (.int p3), .val (.int p4), .val (.int p5), .val (.int n), .val (.int sa), .val (.int pa), .val (.int sb), .val (.int pb), .val (.int sc), .val (.int pc), .val (.int wA), .val (.int atA), .val (.int wB), .val (.int atB), .val (.ref g), .unset, .unset, .unset] [])) _
    refine XS.aload X6.here hx rfl (hb hby at_120) rfl rfl ?_
    show Steps p.tables e below (T6.setTop (mkF m 122 #[.val (.int p0), .val (.int p1), .val (.int p2), .val (.int p3), .val (.int p4), .val (.int p5), .val (.int n), .val (.int sa), .val (.int pa), .val (.int sb), .val (.int pb), .val (.int sc), .val (.int pc), .val (.int wA), .val (.int atA), .val (.int wB), .val (.int atB), .val (.ref g), .unset, .unset, .unset] [(.ref g)])) _
    refine XS.iconst X6.here hx rfl (hb hby at_122) ?_
    show Steps p.tables e below (T6.setTop (mkF m 123 #[.val (.int p0), .val (.int p1), .val (.int p2), .val (.int p3), .val (.int p4), .val (.int p5), .val (.int n), .val (.int sa), .val (.int pa), .val (.int sb), .val (.int pb), .val (.int sc), .val (.int pc), .val (.int wA), .val (.int atA), .val (.int wB), .val (.int atB), .val (.ref g), .unset, .unset, .unset] [(.int (-1 : Int32)), (.ref g)])) _
    refine XS.iconst X6.here hx rfl (hb hby at_123) ?_
    show Steps p.tables e below (T6.setTop (mkF m 124 #[.val (.int p0), .val (.int p1), .val (.int p2), .val (.int p3), .val (.int p4), .val (.int p5), .val (.int n), .val (.int sa), .val (.int pa), .val (.int sb), .val (.int pb), .val (.int sc), .val (.int pc), .val (.int wA), .val (.int atA), .val (.int wB), .val (.int atB), .val (.ref g), .unset, .unset, .unset] [(.int (-1 : Int32)), (.int (-1 : Int32)), (.ref g)])) _
    refine st7.trans ?_
    show Steps p.tables e below (T7.setTop (mkF m 127 #[.val (.int p0), .val (.int p1), .val (.int p2), .val (.int p3), .val (.int p4), .val (.int p5), .val (.int n), .val (.int sa), .val (.int pa), .val (.int sb), .val (.int pb), .val (.int sc), .val (.int pc), .val (.int wA), .val (.int atA), .val (.int wB), .val (.int atB), .val (.ref g), .unset, .unset, .unset] [])) _
    refine XS.aload X7.here hx rfl (hb hby at_127) rfl rfl ?_
    show Steps p.tables e below (T7.setTop (mkF m 129 #[.val (.int p0), .val (.int p1), .val (.int p2), .val (.int p3), .val (.int p4), .val (.int p5), .val (.int n), .val (.int sa), .val (.int pa), .val (.int sb), .val (.int pb), .val (.int sc), .val (.int pc), .val (.int wA), .val (.int atA), .val (.int wB), .val (.int atB), .val (.ref g), .unset, .unset, .unset] [(.ref g)])) _
    refine XS.iconst X7.here hx rfl (hb hby at_129) ?_
    show Steps p.tables e below (T7.setTop (mkF m 130 #[.val (.int p0), .val (.int p1), .val (.int p2), .val (.int p3), .val (.int p4), .val (.int p5), .val (.int n), .val (.int sa), .val (.int pa), .val (.int sb), .val (.int pb), .val (.int sc), .val (.int pc), .val (.int wA), .val (.int atA), .val (.int wB), .val (.int atB), .val (.ref g), .unset, .unset, .unset] [(.int (0 : Int32)), (.ref g)])) _
    refine XS.iconst X7.here hx rfl (hb hby at_130) ?_
    show Steps p.tables e below (T7.setTop (mkF m 131 #[.val (.int p0), .val (.int p1), .val (.int p2), .val (.int p3), .val (.int p4), .val (.int p5), .val (.int n), .val (.int sa), .val (.int pa), .val (.int sb), .val (.int pb), .val (.int sc), .val (.int pc), .val (.int wA), .val (.int atA), .val (.int wB), .val (.int atB), .val (.ref g), .unset, .unset, .unset] [(.int (0 : Int32)), (.int (0 : Int32)), (.ref g)])) _
    refine st8.trans ?_
    show Steps p.tables e below (T8.setTop (mkF m 134 #[.val (.int p0), .val (.int p1), .val (.int p2), .val (.int p3), .val (.int p4), .val (.int p5), .val (.int n), .val (.int sa), .val (.int pa), .val (.int sb), .val (.int pb), .val (.int sc), .val (.int pc), .val (.int wA), .val (.int atA), .val (.int wB), .val (.int atB), .val (.ref g), .unset, .unset, .unset] [])) _
    refine XS.aload X8.here hx rfl (hb hby at_134) rfl rfl ?_
    show Steps p.tables e below (T8.setTop (mkF m 136 #[.val (.int p0), .val (.int p1), .val (.int p2), .val (.int p3), .val (.int p4), .val (.int p5), .val (.int n), .val (.int sa), .val (.int pa), .val (.int sb), .val (.int pb), .val (.int sc), .val (.int pc), .val (.int wA), .val (.int atA), .val (.int wB), .val (.int atB), .val (.ref g), .unset, .unset, .unset] [(.ref g)])) _
    refine XS.iload X8.here hx rfl (hb hby at_136) rfl ?_
    show Steps p.tables e below (T8.setTop (mkF m 138 #[.val (.int p0), .val (.int p1), .val (.int p2), .val (.int p3), .val (.int p4), .val (.int p5), .val (.int n), .val (.int sa), .val (.int pa), .val (.int sb), .val (.int pb), .val (.int sc), .val (.int pc), .val (.int wA), .val (.int atA), .val (.int wB), .val (.int atB), .val (.ref g), .unset, .unset, .unset] [(.int sa), (.ref g)])) _
    refine XS.iload X8.here hx rfl (hb hby at_138) rfl ?_
    show Steps p.tables e below (T8.setTop (mkF m 140 #[.val (.int p0), .val (.int p1), .val (.int p2), .val (.int p3), .val (.int p4), .val (.int p5), .val (.int n), .val (.int sa), .val (.int pa), .val (.int sb), .val (.int pb), .val (.int sc), .val (.int pc), .val (.int wA), .val (.int atA), .val (.int wB), .val (.int atB), .val (.ref g), .unset, .unset, .unset] [(.int pa), (.int sa), (.ref g)])) _
    refine XS.iloadN X8.here hx rfl (hb hby at_140) rfl ?_
    show Steps p.tables e below (T8.setTop (mkF m 141 #[.val (.int p0), .val (.int p1), .val (.int p2), .val (.int p3), .val (.int p4), .val (.int p5), .val (.int n), .val (.int sa), .val (.int pa), .val (.int sb), .val (.int pb), .val (.int sc), .val (.int pc), .val (.int wA), .val (.int atA), .val (.int wB), .val (.int atB), .val (.ref g), .unset, .unset, .unset] [(.int p0), (.int pa), (.int sa), (.ref g)])) _
    refine XS.iconst X8.here hx rfl (hb hby at_141) ?_
    show Steps p.tables e below (T8.setTop (mkF m 142 #[.val (.int p0), .val (.int p1), .val (.int p2), .val (.int p3), .val (.int p4), .val (.int p5), .val (.int n), .val (.int sa), .val (.int pa), .val (.int sb), .val (.int pb), .val (.int sc), .val (.int pc), .val (.int wA), .val (.int atA), .val (.int wB), .val (.int atB), .val (.ref g), .unset, .unset, .unset] [(.int (2 : Int32)), (.int p0), (.int pa), (.int sa), (.ref g)])) _
    refine XS.ishr X8.here hx rfl (hb hby at_142) rfl ?_
    show Steps p.tables e below (T8.setTop (mkF m 143 #[.val (.int p0), .val (.int p1), .val (.int p2), .val (.int p3), .val (.int p4), .val (.int p5), .val (.int n), .val (.int sa), .val (.int pa), .val (.int sb), .val (.int pb), .val (.int sc), .val (.int pc), .val (.int wA), .val (.int atA), .val (.int wB), .val (.int atB), .val (.ref g), .unset, .unset, .unset] [(.int (p0 >>> ((2 : Int32) &&& 31))), (.int pa), (.int sa), (.ref g)])) _
    refine XS.iconst X8.here hx rfl (hb hby at_143) ?_
    show Steps p.tables e below (T8.setTop (mkF m 144 #[.val (.int p0), .val (.int p1), .val (.int p2), .val (.int p3), .val (.int p4), .val (.int p5), .val (.int n), .val (.int sa), .val (.int pa), .val (.int sb), .val (.int pb), .val (.int sc), .val (.int pc), .val (.int wA), .val (.int atA), .val (.int wB), .val (.int atB), .val (.ref g), .unset, .unset, .unset] [(.int (3 : Int32)), (.int (p0 >>> ((2 : Int32) &&& 31))), (.int pa), (.int sa), (.ref g)])) _
    refine XS.iand X8.here hx rfl (hb hby at_144) rfl ?_
    show Steps p.tables e below (T8.setTop (mkF m 145 #[.val (.int p0), .val (.int p1), .val (.int p2), .val (.int p3), .val (.int p4), .val (.int p5), .val (.int n), .val (.int sa), .val (.int pa), .val (.int sb), .val (.int pb), .val (.int sc), .val (.int pc), .val (.int wA), .val (.int atA), .val (.int wB), .val (.int atB), .val (.ref g), .unset, .unset, .unset] [(.int ((p0 >>> ((2 : Int32) &&& 31)) &&& (3 : Int32))), (.int pa), (.int sa), (.ref g)])) _
    refine st9 _ ?_
    show Steps p.tables e below (T9.setTop (mkF m 148 #[.val (.int p0), .val (.int p1), .val (.int p2), .val (.int p3), .val (.int p4), .val (.int p5), .val (.int n), .val (.int sa), .val (.int pa), .val (.int sb), .val (.int pb), .val (.int sc), .val (.int pc), .val (.int wA), .val (.int atA), .val (.int wB), .val (.int atB), .val (.ref g), .unset, .unset, .unset] [(.ref (own_c c0 c1 c2 c3 ((p0 >>> ((2 : Int32) &&& 31)) &&& (3 : Int32)))), (.int pa), (.int sa), (.ref g)])) _
    refine XS.iload X9.here hx rfl (hb hby at_148) rfl ?_
    show Steps p.tables e below (T9.setTop (mkF m 150 #[.val (.int p0), .val (.int p1), .val (.int p2), .val (.int p3), .val (.int p4), .val (.int p5), .val (.int n), .val (.int sa), .val (.int pa), .val (.int sb), .val (.int pb), .val (.int sc), .val (.int pc), .val (.int wA), .val (.int atA), .val (.int wB), .val (.int atB), .val (.ref g), .unset, .unset, .unset] [(.int wA), (.ref (own_c c0 c1 c2 c3 ((p0 >>> ((2 : Int32) &&& 31)) &&& (3 : Int32)))), (.int pa), (.int sa), (.ref g)])) _
    refine XS.iload X9.here hx rfl (hb hby at_150) rfl ?_
    show Steps p.tables e below (T9.setTop (mkF m 152 #[.val (.int p0), .val (.int p1), .val (.int p2), .val (.int p3), .val (.int p4), .val (.int p5), .val (.int n), .val (.int sa), .val (.int pa), .val (.int sb), .val (.int pb), .val (.int sc), .val (.int pc), .val (.int wA), .val (.int atA), .val (.int wB), .val (.int atB), .val (.ref g), .unset, .unset, .unset] [(.int atA), (.int wA), (.ref (own_c c0 c1 c2 c3 ((p0 >>> ((2 : Int32) &&& 31)) &&& (3 : Int32)))), (.int pa), (.int sa), (.ref g)])) _
    refine XS.iload X9.here hx rfl (hb hby at_152) rfl ?_
    show Steps p.tables e below (T9.setTop (mkF m 154 #[.val (.int p0), .val (.int p1), .val (.int p2), .val (.int p3), .val (.int p4), .val (.int p5), .val (.int n), .val (.int sa), .val (.int pa), .val (.int sb), .val (.int pb), .val (.int sc), .val (.int pc), .val (.int wA), .val (.int atA), .val (.int wB), .val (.int atB), .val (.ref g), .unset, .unset, .unset] [(.int p4), (.int atA), (.int wA), (.ref (own_c c0 c1 c2 c3 ((p0 >>> ((2 : Int32) &&& 31)) &&& (3 : Int32)))), (.int pa), (.int sa), (.ref g)])) _
    refine st10.trans ?_
    show Steps p.tables e below (T10.setTop (mkF m 157 #[.val (.int p0), .val (.int p1), .val (.int p2), .val (.int p3), .val (.int p4), .val (.int p5), .val (.int n), .val (.int sa), .val (.int pa), .val (.int sb), .val (.int pb), .val (.int sc), .val (.int pc), .val (.int wA), .val (.int atA), .val (.int wB), .val (.int atB), .val (.ref g), .unset, .unset, .unset] [])) _
    refine XS.aload X10.here hx rfl (hb hby at_157) rfl rfl ?_
    show Steps p.tables e below (T10.setTop (mkF m 159 #[.val (.int p0), .val (.int p1), .val (.int p2), .val (.int p3), .val (.int p4), .val (.int p5), .val (.int n), .val (.int sa), .val (.int pa), .val (.int sb), .val (.int pb), .val (.int sc), .val (.int pc), .val (.int wA), .val (.int atA), .val (.int wB), .val (.int atB), .val (.ref g), .unset, .unset, .unset] [(.ref g)])) _
    refine XS.iload X10.here hx rfl (hb hby at_159) rfl ?_
    show Steps p.tables e below (T10.setTop (mkF m 161 #[.val (.int p0), .val (.int p1), .val (.int p2), .val (.int p3), .val (.int p4), .val (.int p5), .val (.int n), .val (.int sa), .val (.int pa), .val (.int sb), .val (.int pb), .val (.int sc), .val (.int pc), .val (.int wA), .val (.int atA), .val (.int wB), .val (.int atB), .val (.ref g), .unset, .unset, .unset] [(.int sb), (.ref g)])) _
    refine XS.iload X10.here hx rfl (hb hby at_161) rfl ?_
    show Steps p.tables e below (T10.setTop (mkF m 163 #[.val (.int p0), .val (.int p1), .val (.int p2), .val (.int p3), .val (.int p4), .val (.int p5), .val (.int n), .val (.int sa), .val (.int pa), .val (.int sb), .val (.int pb), .val (.int sc), .val (.int pc), .val (.int wA), .val (.int atA), .val (.int wB), .val (.int atB), .val (.ref g), .unset, .unset, .unset] [(.int pb), (.int sb), (.ref g)])) _
    refine XS.iloadN X10.here hx rfl (hb hby at_163) rfl ?_
    show Steps p.tables e below (T10.setTop (mkF m 164 #[.val (.int p0), .val (.int p1), .val (.int p2), .val (.int p3), .val (.int p4), .val (.int p5), .val (.int n), .val (.int sa), .val (.int pa), .val (.int sb), .val (.int pb), .val (.int sc), .val (.int pc), .val (.int wA), .val (.int atA), .val (.int wB), .val (.int atB), .val (.ref g), .unset, .unset, .unset] [(.int p0), (.int pb), (.int sb), (.ref g)])) _
    refine XS.bipush X10.here hx rfl (hb hby at_164) ?_
    show Steps p.tables e below (T10.setTop (mkF m 166 #[.val (.int p0), .val (.int p1), .val (.int p2), .val (.int p3), .val (.int p4), .val (.int p5), .val (.int n), .val (.int sa), .val (.int pa), .val (.int sb), .val (.int pb), .val (.int sc), .val (.int pc), .val (.int wA), .val (.int atA), .val (.int wB), .val (.int atB), .val (.ref g), .unset, .unset, .unset] [(.int (6 : Int32)), (.int p0), (.int pb), (.int sb), (.ref g)])) _
    refine XS.ishr X10.here hx rfl (hb hby at_166) rfl ?_
    show Steps p.tables e below (T10.setTop (mkF m 167 #[.val (.int p0), .val (.int p1), .val (.int p2), .val (.int p3), .val (.int p4), .val (.int p5), .val (.int n), .val (.int sa), .val (.int pa), .val (.int sb), .val (.int pb), .val (.int sc), .val (.int pc), .val (.int wA), .val (.int atA), .val (.int wB), .val (.int atB), .val (.ref g), .unset, .unset, .unset] [(.int (p0 >>> ((6 : Int32) &&& 31))), (.int pb), (.int sb), (.ref g)])) _
    refine XS.iconst X10.here hx rfl (hb hby at_167) ?_
    show Steps p.tables e below (T10.setTop (mkF m 168 #[.val (.int p0), .val (.int p1), .val (.int p2), .val (.int p3), .val (.int p4), .val (.int p5), .val (.int n), .val (.int sa), .val (.int pa), .val (.int sb), .val (.int pb), .val (.int sc), .val (.int pc), .val (.int wA), .val (.int atA), .val (.int wB), .val (.int atB), .val (.ref g), .unset, .unset, .unset] [(.int (3 : Int32)), (.int (p0 >>> ((6 : Int32) &&& 31))), (.int pb), (.int sb), (.ref g)])) _
    refine XS.iand X10.here hx rfl (hb hby at_168) rfl ?_
    show Steps p.tables e below (T10.setTop (mkF m 169 #[.val (.int p0), .val (.int p1), .val (.int p2), .val (.int p3), .val (.int p4), .val (.int p5), .val (.int n), .val (.int sa), .val (.int pa), .val (.int sb), .val (.int pb), .val (.int sc), .val (.int pc), .val (.int wA), .val (.int atA), .val (.int wB), .val (.int atB), .val (.ref g), .unset, .unset, .unset] [(.int ((p0 >>> ((6 : Int32) &&& 31)) &&& (3 : Int32))), (.int pb), (.int sb), (.ref g)])) _
    refine st11 _ ?_
    show Steps p.tables e below (T11.setTop (mkF m 172 #[.val (.int p0), .val (.int p1), .val (.int p2), .val (.int p3), .val (.int p4), .val (.int p5), .val (.int n), .val (.int sa), .val (.int pa), .val (.int sb), .val (.int pb), .val (.int sc), .val (.int pc), .val (.int wA), .val (.int atA), .val (.int wB), .val (.int atB), .val (.ref g), .unset, .unset, .unset] [(.ref (own_c c0 c1 c2 c3 ((p0 >>> ((6 : Int32) &&& 31)) &&& (3 : Int32)))), (.int pb), (.int sb), (.ref g)])) _
    refine XS.iload X11.here hx rfl (hb hby at_172) rfl ?_
    show Steps p.tables e below (T11.setTop (mkF m 174 #[.val (.int p0), .val (.int p1), .val (.int p2), .val (.int p3), .val (.int p4), .val (.int p5), .val (.int n), .val (.int sa), .val (.int pa), .val (.int sb), .val (.int pb), .val (.int sc), .val (.int pc), .val (.int wA), .val (.int atA), .val (.int wB), .val (.int atB), .val (.ref g), .unset, .unset, .unset] [(.int wB), (.ref (own_c c0 c1 c2 c3 ((p0 >>> ((6 : Int32) &&& 31)) &&& (3 : Int32)))), (.int pb), (.int sb), (.ref g)])) _
    refine XS.iload X11.here hx rfl (hb hby at_174) rfl ?_
    show Steps p.tables e below (T11.setTop (mkF m 176 #[.val (.int p0), .val (.int p1), .val (.int p2), .val (.int p3), .val (.int p4), .val (.int p5), .val (.int n), .val (.int sa), .val (.int pa), .val (.int sb), .val (.int pb), .val (.int sc), .val (.int pc), .val (.int wA), .val (.int atA), .val (.int wB), .val (.int atB), .val (.ref g), .unset, .unset, .unset] [(.int atB), (.int wB), (.ref (own_c c0 c1 c2 c3 ((p0 >>> ((6 : Int32) &&& 31)) &&& (3 : Int32)))), (.int pb), (.int sb), (.ref g)])) _
    refine XS.iload X11.here hx rfl (hb hby at_176) rfl ?_
    show Steps p.tables e below (T11.setTop (mkF m 178 #[.val (.int p0), .val (.int p1), .val (.int p2), .val (.int p3), .val (.int p4), .val (.int p5), .val (.int n), .val (.int sa), .val (.int pa), .val (.int sb), .val (.int pb), .val (.int sc), .val (.int pc), .val (.int wA), .val (.int atA), .val (.int wB), .val (.int atB), .val (.ref g), .unset, .unset, .unset] [(.int p5), (.int atB), (.int wB), (.ref (own_c c0 c1 c2 c3 ((p0 >>> ((6 : Int32) &&& 31)) &&& (3 : Int32)))), (.int pb), (.int sb), (.ref g)])) _
    refine st12.trans ?_
    show Steps p.tables e below (T12.setTop (mkF m 181 #[.val (.int p0), .val (.int p1), .val (.int p2), .val (.int p3), .val (.int p4), .val (.int p5), .val (.int n), .val (.int sa), .val (.int pa), .val (.int sb), .val (.int pb), .val (.int sc), .val (.int pc), .val (.int wA), .val (.int atA), .val (.int wB), .val (.int atB), .val (.ref g), .unset, .unset, .unset] [])) _
    refine XS.iload X12.here hx rfl (hb hby at_181) rfl ?_
    show Steps p.tables e below (T12.setTop (mkF m 183 #[.val (.int p0), .val (.int p1), .val (.int p2), .val (.int p3), .val (.int p4), .val (.int p5), .val (.int n), .val (.int sa), .val (.int pa), .val (.int sb), .val (.int pb), .val (.int sc), .val (.int pc), .val (.int wA), .val (.int atA), .val (.int wB), .val (.int atB), .val (.ref g), .unset, .unset, .unset] [(.int sa)])) _
    refine XS.iload X12.here hx rfl (hb hby at_183) rfl ?_
    refine st13 _ ?_
    show Steps p.tables e below (T13.setTop (mkF m 200 #[.val (.int p0), .val (.int p1), .val (.int p2), .val (.int p3), .val (.int p4), .val (.int p5), .val (.int n), .val (.int sa), .val (.int pa), .val (.int sb), .val (.int pb), .val (.int sc), .val (.int pc), .val (.int wA), .val (.int atA), .val (.int wB), .val (.int atB), .val (.ref g), .unset, .unset, .unset] [(.int sm)])) _
    refine XS.istore X13.here hx rfl (hb hby at_200) rfl (l' := #[.val (.int p0), .val (.int p1), .val (.int p2), .val (.int p3), .val (.int p4), .val (.int p5), .val (.int n), .val (.int sa), .val (.int pa), .val (.int sb), .val (.int pb), .val (.int sc), .val (.int pc), .val (.int wA), .val (.int atA), .val (.int wB), .val (.int atB), .val (.ref g), .val (.int sm), .unset, .unset]) rfl ?_
    show Steps p.tables e below (T13.setTop (mkF m 202 #[.val (.int p0), .val (.int p1), .val (.int p2), .val (.int p3), .val (.int p4), .val (.int p5), .val (.int n), .val (.int sa), .val (.int pa), .val (.int sb), .val (.int pb), .val (.int sc), .val (.int pc), .val (.int wA), .val (.int atA), .val (.int wB), .val (.int atB), .val (.ref g), .val (.int sm), .unset, .unset] [])) _
    refine XS.iload X13.here hx rfl (hb hby at_202) rfl ?_
    refine st15 _ ?_
    show Steps p.tables e below (T15.setTop (mkF m 214 #[.val (.int p0), .val (.int p1), .val (.int p2), .val (.int p3), .val (.int p4), .val (.int p5), .val (.int n), .val (.int sa), .val (.int pa), .val (.int sb), .val (.int pb), .val (.int sc), .val (.int pc), .val (.int wA), .val (.int atA), .val (.int wB), .val (.int atB), .val (.ref g), .val (.int sm), .unset, .unset] [(.int eA)])) _
    refine XS.istore X15.here hx rfl (hb hby at_214) rfl (l' := #[.val (.int p0), .val (.int p1), .val (.int p2), .val (.int p3), .val (.int p4), .val (.int p5), .val (.int n), .val (.int sa), .val (.int pa), .val (.int sb), .val (.int pb), .val (.int sc), .val (.int pc), .val (.int wA), .val (.int atA), .val (.int wB), .val (.int atB), .val (.ref g), .val (.int sm), .val (.int eA), .unset]) rfl ?_
    show Steps p.tables e below (T15.setTop (mkF m 216 #[.val (.int p0), .val (.int p1), .val (.int p2), .val (.int p3), .val (.int p4), .val (.int p5), .val (.int n), .val (.int sa), .val (.int pa), .val (.int sb), .val (.int pb), .val (.int sc), .val (.int pc), .val (.int wA), .val (.int atA), .val (.int wB), .val (.int atB), .val (.ref g), .val (.int sm), .val (.int eA), .unset] [])) _
    refine XS.iconst X15.here hx rfl (hb hby at_216) ?_
    show Steps p.tables e below (T15.setTop (mkF m 217 #[.val (.int p0), .val (.int p1), .val (.int p2), .val (.int p3), .val (.int p4), .val (.int p5), .val (.int n), .val (.int sa), .val (.int pa), .val (.int sb), .val (.int pb), .val (.int sc), .val (.int pc), .val (.int wA), .val (.int atA), .val (.int wB), .val (.int atB), .val (.ref g), .val (.int sm), .val (.int eA), .unset] [(.int (0 : Int32))])) _
    refine XS.istore X15.here hx rfl (hb hby at_217) rfl (l' := #[.val (.int p0), .val (.int p1), .val (.int p2), .val (.int p3), .val (.int p4), .val (.int p5), .val (.int n), .val (.int sa), .val (.int pa), .val (.int sb), .val (.int pb), .val (.int sc), .val (.int pc), .val (.int wA), .val (.int atA), .val (.int wB), .val (.int atB), .val (.ref g), .val (.int sm), .val (.int eA), .val (.int (0 : Int32))]) rfl ?_
    show Steps p.tables e below (T15.setTop (mkF m 219 #[.val (.int p0), .val (.int p1), .val (.int p2), .val (.int p3), .val (.int p4), .val (.int p5), .val (.int n), .val (.int sa), .val (.int pa), .val (.int sb), .val (.int pb), .val (.int sc), .val (.int pc), .val (.int wA), .val (.int atA), .val (.int wB), .val (.int atB), .val (.ref g), .val (.int sm), .val (.int eA), .val (.int (0 : Int32))] [])) _
    refine XS.iload X15.here hx rfl (hb hby at_219) rfl ?_
    show Steps p.tables e below (T15.setTop (mkF m 221 #[.val (.int p0), .val (.int p1), .val (.int p2), .val (.int p3), .val (.int p4), .val (.int p5), .val (.int n), .val (.int sa), .val (.int pa), .val (.int sb), .val (.int pb), .val (.int sc), .val (.int pc), .val (.int wA), .val (.int atA), .val (.int wB), .val (.int atB), .val (.ref g), .val (.int sm), .val (.int eA), .val (.int (0 : Int32))] [(.int sc)])) _
    refine XS.iload X15.here hx rfl (hb hby at_221) rfl ?_
    refine st16 _ ?_
    show Steps p.tables e below (T16.setTop (mkF m 258 #[.val (.int p0), .val (.int p1), .val (.int p2), .val (.int p3), .val (.int p4), .val (.int p5), .val (.int n), .val (.int sa), .val (.int pa), .val (.int sb), .val (.int pb), .val (.int sc), .val (.int pc), .val (.int wA), .val (.int atA), .val (.int wB), .val (.int atB), .val (.ref g), .val (.int sm), .val (.int eA), .val (.int eC)] [])) _
    refine XS.aload X16.here hx rfl (hb hby at_258) rfl rfl ?_
    show Steps p.tables e below (T16.setTop (mkF m 260 #[.val (.int p0), .val (.int p1), .val (.int p2), .val (.int p3), .val (.int p4), .val (.int p5), .val (.int n), .val (.int sa), .val (.int pa), .val (.int sb), .val (.int pb), .val (.int sc), .val (.int pc), .val (.int wA), .val (.int atA), .val (.int wB), .val (.int atB), .val (.ref g), .val (.int sm), .val (.int eA), .val (.int eC)] [(.ref g)])) _
    refine XS.iload X16.here hx rfl (hb hby at_260) rfl ?_
    show Steps p.tables e below (T16.setTop (mkF m 262 #[.val (.int p0), .val (.int p1), .val (.int p2), .val (.int p3), .val (.int p4), .val (.int p5), .val (.int n), .val (.int sa), .val (.int pa), .val (.int sb), .val (.int pb), .val (.int sc), .val (.int pc), .val (.int wA), .val (.int atA), .val (.int wB), .val (.int atB), .val (.ref g), .val (.int sm), .val (.int eA), .val (.int eC)] [(.int sa), (.ref g)])) _
    refine XS.iload X16.here hx rfl (hb hby at_262) rfl ?_
    show Steps p.tables e below (T16.setTop (mkF m 264 #[.val (.int p0), .val (.int p1), .val (.int p2), .val (.int p3), .val (.int p4), .val (.int p5), .val (.int n), .val (.int sa), .val (.int pa), .val (.int sb), .val (.int pb), .val (.int sc), .val (.int pc), .val (.int wA), .val (.int atA), .val (.int wB), .val (.int atB), .val (.ref g), .val (.int sm), .val (.int eA), .val (.int eC)] [(.int pa), (.int sa), (.ref g)])) _
    refine st22.trans ?_
    show Steps p.tables e below (T22.setTop (mkF m 267 #[.val (.int p0), .val (.int p1), .val (.int p2), .val (.int p3), .val (.int p4), .val (.int p5), .val (.int n), .val (.int sa), .val (.int pa), .val (.int sb), .val (.int pb), .val (.int sc), .val (.int pc), .val (.int wA), .val (.int atA), .val (.int wB), .val (.int atB), .val (.ref g), .val (.int sm), .val (.int eA), .val (.int eC)] [(.int rb22)])) _
    refine XS.iload X22.here hx rfl (hb hby at_267) rfl ?_
    show Steps p.tables e below (T22.setTop (mkF m 269 #[.val (.int p0), .val (.int p1), .val (.int p2), .val (.int p3), .val (.int p4), .val (.int p5), .val (.int n), .val (.int sa), .val (.int pa), .val (.int sb), .val (.int pb), .val (.int sc), .val (.int pc), .val (.int wA), .val (.int atA), .val (.int wB), .val (.int atB), .val (.ref g), .val (.int sm), .val (.int eA), .val (.int eC)] [(.int eA), (.int rb22)])) _
    refine XS.icmpNo X22.here hx rfl (hb hby at_269) rfl (teq (own_f1 hfour st_sa pr_pa st_sb pr_pb VA.2.2 VB.2.2 hv2 hv4 hv13 hv15 hb22)).2 ?_
    show Steps p.tables e below (T22.setTop (mkF m 272 #[.val (.int p0), .val (.int p1), .val (.int p2), .val (.int p3), .val (.int p4), .val (.int p5), .val (.int n), .val (.int sa), .val (.int pa), .val (.int sb), .val (.int pb), .val (.int sc), .val (.int pc), .val (.int wA), .val (.int atA), .val (.int wB), .val (.int atB), .val (.ref g), .val (.int sm), .val (.int eA), .val (.int eC)] [])) _
    refine XS.aload X22.here hx rfl (hb hby at_272) rfl rfl ?_
    show Steps p.tables e below (T22.setTop (mkF m 274 #[.val (.int p0), .val (.int p1), .val (.int p2), .val (.int p3), .val (.int p4), .val (.int p5), .val (.int n), .val (.int sa), .val (.int pa), .val (.int sb), .val (.int pb), .val (.int sc), .val (.int pc), .val (.int wA), .val (.int atA), .val (.int wB), .val (.int atB), .val (.ref g), .val (.int sm), .val (.int eA), .val (.int eC)] [(.ref g)])) _
    refine XS.iload X22.here hx rfl (hb hby at_274) rfl ?_
    show Steps p.tables e below (T22.setTop (mkF m 276 #[.val (.int p0), .val (.int p1), .val (.int p2), .val (.int p3), .val (.int p4), .val (.int p5), .val (.int n), .val (.int sa), .val (.int pa), .val (.int sb), .val (.int pb), .val (.int sc), .val (.int pc), .val (.int wA), .val (.int atA), .val (.int wB), .val (.int atB), .val (.ref g), .val (.int sm), .val (.int eA), .val (.int eC)] [(.int sb), (.ref g)])) _
    refine XS.iload X22.here hx rfl (hb hby at_276) rfl ?_
    show Steps p.tables e below (T22.setTop (mkF m 278 #[.val (.int p0), .val (.int p1), .val (.int p2), .val (.int p3), .val (.int p4), .val (.int p5), .val (.int n), .val (.int sa), .val (.int pa), .val (.int sb), .val (.int pb), .val (.int sc), .val (.int pc), .val (.int wA), .val (.int atA), .val (.int wB), .val (.int atB), .val (.ref g), .val (.int sm), .val (.int eA), .val (.int eC)] [(.int pb), (.int sb), (.ref g)])) _
    refine st23.trans ?_
    show Steps p.tables e below (T23.setTop (mkF m 281 #[.val (.int p0), .val (.int p1), .val (.int p2), .val (.int p3), .val (.int p4), .val (.int p5), .val (.int n), .val (.int sa), .val (.int pa), .val (.int sb), .val (.int pb), .val (.int sc), .val (.int pc), .val (.int wA), .val (.int atA), .val (.int wB), .val (.int atB), .val (.ref g), .val (.int sm), .val (.int eA), .val (.int eC)] [(.int rb23)])) _
    refine XS.iload X23.here hx rfl (hb hby at_281) rfl ?_
    show Steps p.tables e below (T23.setTop (mkF m 283 #[.val (.int p0), .val (.int p1), .val (.int p2), .val (.int p3), .val (.int p4), .val (.int p5), .val (.int n), .val (.int sa), .val (.int pa), .val (.int sb), .val (.int pb), .val (.int sc), .val (.int pc), .val (.int wA), .val (.int atA), .val (.int wB), .val (.int atB), .val (.ref g), .val (.int sm), .val (.int eA), .val (.int eC)] [(.int atB), (.int rb23)])) _
    refine XS.icmpNo X23.here hx rfl (hb hby at_283) rfl (teq (own_f2 VB.2.2 hv4 hb23)).2 ?_
    show Steps p.tables e below (T23.setTop (mkF m 286 #[.val (.int p0), .val (.int p1), .val (.int p2), .val (.int p3), .val (.int p4), .val (.int p5), .val (.int n), .val (.int sa), .val (.int pa), .val (.int sb), .val (.int pb), .val (.int sc), .val (.int pc), .val (.int wA), .val (.int atA), .val (.int wB), .val (.int atB), .val (.ref g), .val (.int sm), .val (.int eA), .val (.int eC)] [])) _
    refine XS.aload X23.here hx rfl (hb hby at_286) rfl rfl ?_
    show Steps p.tables e below (T23.setTop (mkF m 288 #[.val (.int p0), .val (.int p1), .val (.int p2), .val (.int p3), .val (.int p4), .val (.int p5), .val (.int n), .val (.int sa), .val (.int pa), .val (.int sb), .val (.int pb), .val (.int sc), .val (.int pc), .val (.int wA), .val (.int atA), .val (.int wB), .val (.int atB), .val (.ref g), .val (.int sm), .val (.int eA), .val (.int eC)] [(.ref g)])) _
    refine XS.iload X23.here hx rfl (hb hby at_288) rfl ?_
    show Steps p.tables e below (T23.setTop (mkF m 290 #[.val (.int p0), .val (.int p1), .val (.int p2), .val (.int p3), .val (.int p4), .val (.int p5), .val (.int n), .val (.int sa), .val (.int pa), .val (.int sb), .val (.int pb), .val (.int sc), .val (.int pc), .val (.int wA), .val (.int atA), .val (.int wB), .val (.int atB), .val (.ref g), .val (.int sm), .val (.int eA), .val (.int eC)] [(.int sc), (.ref g)])) _
    refine XS.iload X23.here hx rfl (hb hby at_290) rfl ?_
    show Steps p.tables e below (T23.setTop (mkF m 292 #[.val (.int p0), .val (.int p1), .val (.int p2), .val (.int p3), .val (.int p4), .val (.int p5), .val (.int n), .val (.int sa), .val (.int pa), .val (.int sb), .val (.int pb), .val (.int sc), .val (.int pc), .val (.int wA), .val (.int atA), .val (.int wB), .val (.int atB), .val (.ref g), .val (.int sm), .val (.int eA), .val (.int eC)] [(.int pc), (.int sc), (.ref g)])) _
    refine st24.trans ?_
    show Steps p.tables e below (T24.setTop (mkF m 295 #[.val (.int p0), .val (.int p1), .val (.int p2), .val (.int p3), .val (.int p4), .val (.int p5), .val (.int n), .val (.int sa), .val (.int pa), .val (.int sb), .val (.int pb), .val (.int sc), .val (.int pc), .val (.int wA), .val (.int atA), .val (.int wB), .val (.int atB), .val (.ref g), .val (.int sm), .val (.int eA), .val (.int eC)] [(.int rb24)])) _
    refine XS.iload X24.here hx rfl (hb hby at_295) rfl ?_
    show Steps p.tables e below (T24.setTop (mkF m 297 #[.val (.int p0), .val (.int p1), .val (.int p2), .val (.int p3), .val (.int p4), .val (.int p5), .val (.int n), .val (.int sa), .val (.int pa), .val (.int sb), .val (.int pb), .val (.int sc), .val (.int pc), .val (.int wA), .val (.int atA), .val (.int wB), .val (.int atB), .val (.ref g), .val (.int sm), .val (.int eA), .val (.int eC)] [(.int eC), (.int rb24)])) _
    refine XS.icmpNo X24.here hx rfl (hb hby at_297) rfl (teq (own_f3 hfour st_sa pr_pa st_sb pr_pb st_sc pr_pc VA.2.2 VB.2.2 hv2 hv4 hv16 hb24)).2 ?_
    show Steps p.tables e below (T24.setTop (mkF m 300 #[.val (.int p0), .val (.int p1), .val (.int p2), .val (.int p3), .val (.int p4), .val (.int p5), .val (.int n), .val (.int sa), .val (.int pa), .val (.int sb), .val (.int pb), .val (.int sc), .val (.int pc), .val (.int wA), .val (.int atA), .val (.int wB), .val (.int atB), .val (.ref g), .val (.int sm), .val (.int eA), .val (.int eC)] [])) _
    refine XS.iconst X24.here hx rfl (hb hby at_300) ?_
    show Steps p.tables e below (T24.setTop (mkF m 301 #[.val (.int p0), .val (.int p1), .val (.int p2), .val (.int p3), .val (.int p4), .val (.int p5), .val (.int n), .val (.int sa), .val (.int pa), .val (.int sb), .val (.int pb), .val (.int sc), .val (.int pc), .val (.int wA), .val (.int atA), .val (.int wB), .val (.int atB), .val (.ref g), .val (.int sm), .val (.int eA), .val (.int eC)] [(.int (1 : Int32))])) _
    refine XS.goto X24.here hx rfl (pc0 := 301) (pc' := 305) rfl (hb hby at_301) (by decide) (by decide) ?_
    show Steps p.tables e below (T24.setTop (mkF m 305 #[.val (.int p0), .val (.int p1), .val (.int p2), .val (.int p3), .val (.int p4), .val (.int p5), .val (.int n), .val (.int sa), .val (.int pa), .val (.int sb), .val (.int pb), .val (.int sc), .val (.int pc), .val (.int wA), .val (.int atA), .val (.int wB), .val (.int atB), .val (.ref g), .val (.int sm), .val (.int eA), .val (.int eC)] [(.int (1 : Int32))])) _
    exact retN X24 hx (t := .boolean) Bd.returns (by simp) (hb hby at_305) hr
  · show own_QL n0 _ T24.heap _
    rw [e24]
    exact ⟨rfl, N12⟩
theorem own_int {args : Array Value} {first s : State} {o : Option Outcome} {idx : List Nat} {t : Term} {k : Int32} (h : (Jvm.Cond.eq t (.int k)).value args first o s idx = some true) : t.eval args first o idx s = some (.int k) := by
  simp only [Cond.value, Term.eval] at h; cases ht : t.eval args first o idx s with | none => simp [ht] at h | some x => cases x <;> simp [ht] at h ⊢; exact h
theorem own_ref {args : Array Value} {first s : State} {o : Option Outcome} {idx : List Nat} {t t' : Term} {a : Addr} (h : (Jvm.Cond.eq t t').value args first o s idx = some true) (ev : t'.eval args first o idx s = some (.ref a)) : t.eval args first o idx s = some (.ref a) := by
  simp only [Cond.value, ev] at h; cases ht : t.eval args first o idx s with | none => simp [ht] at h | some x => cases x <;> simp [ht] at h ⊢; exact h
set_option maxRecDepth 65536 in
set_option maxHeartbeats 40000000 in
theorem comes_1 {Post : Tables → Env → Array Value → State → Outcome → State → Prop} (hpost : ∀ tb e args s v u, (limb_1_1.after args s (.returned v) u = true ∧ limb_1_2.after args s (.returned v) u = true ∧ True) → FrameEnd s (.returned v) u (Jvm.fieldLocs frame_1_writes args s ++ Jvm.arrayLocs frame_1_arrays args s ++ Jvm.staticLocs frame_1_statics s) 24 20608 → Post tb e args s (.returned v) u) :
    ArmFor flags0 classFile x code maxLocals ret World_1 tables_1 room_1 Calls_1 rest_1 Pre_1 Post := by
  intro l hfl _ _ p e ha hc hk s m args below hf hA hF happ hP
  obtain ⟨hcalls, hrest, hpre⟩ := hP
  obtain ⟨-, -, -, hnamed, -, -, -, hat⟩ := (Spec.applies_iff hf).mp happ
  obtain ⟨hg, hn⟩ := and_e (Cond.before_iff.mp (show (Jvm.Cond.and given_1 narrow_1).before args s = true from hpre))
  obtain ⟨g0, hg⟩ := and_e hg
  obtain ⟨g1, hg⟩ := and_e hg
  obtain ⟨g2, hg⟩ := and_e hg
  obtain ⟨g3, hg⟩ := and_e hg
  obtain ⟨g4, hg⟩ := and_e hg
  obtain ⟨g5, hg⟩ := and_e hg
  have g6 := hg
  obtain ⟨w0, w1, w2, w3, w4, w5, rfl⟩ : ∃ w0 w1 w2 w3 w4 w5 : Value, args = #[w0, w1, w2, w3, w4, w5] := by
    have hs : args.size = 6 := by simpa [Cond.value, given_1] using g0
    obtain ⟨L⟩ := args
    match L, hs with
    | [w0, w1, w2, w3, w4, w5], _ => exact ⟨w0, w1, w2, w3, w4, w5, rfl⟩
  have hw := fun d (hd : d ∈ tables_1) => atoms_spec (ws := Jvm.Cond.code x code maxLocals ret :: tables_1) hat d (List.mem_cons_of_mem _ hd)
  obtain ⟨i0, ei0⟩ := is_v g1
  obtain rfl : w0 = (.int i0) := Option.some.inj ei0
  obtain ⟨i1, ei1⟩ := is_v g2
  obtain rfl : w1 = (.int i1) := Option.some.inj ei1
  obtain ⟨i2, ei2⟩ := is_v g3
  obtain rfl : w2 = (.int i2) := Option.some.inj ei2
  obtain ⟨i3, ei3⟩ := is_v g4
  obtain rfl : w3 = (.int i3) := Option.some.inj ei3
  obtain ⟨i4, ei4⟩ := is_v g5
  obtain rfl : w4 = (.int i4) := Option.some.inj ei4
  obtain ⟨i5, ei5⟩ := is_v g6
  obtain rfl : w5 = (.int i5) := Option.some.inj ei5
  obtain ⟨j0, hn⟩ := and_e hn
  obtain ⟨j1, hn⟩ := and_e hn
  obtain ⟨j2, hn⟩ := and_e hn
  obtain ⟨j3, hn⟩ := and_e hn
  obtain ⟨j4, hn⟩ := and_e hn
  obtain ⟨j5, hn⟩ := and_e hn
  obtain ⟨j6, hn⟩ := and_e hn
  have j7 := hn
  obtain ⟨c0, v0⟩ := exa_v j0
  have S0 := Sta.start v0 (Or.inr ⟨(hw _ (List.mem_of_getElem? (i := 43) rfl)), (hw _ (List.mem_of_getElem? (i := 44) rfl))⟩)
  have R0 : own_R s c0 (0 : Int32) := ⟨Exa.start v0 j0, Fld.start ((fld_at v0).symm.trans (own_int j1))⟩
  obtain ⟨c1, v1⟩ := exa_v j2
  have S1 := Sta.start v1 (Or.inr ⟨(hw _ (List.mem_of_getElem? (i := 43) rfl)), (hw _ (List.mem_of_getElem? (i := 65) rfl))⟩)
  have R1 : own_R s c1 (1 : Int32) := ⟨Exa.start v1 j2, Fld.start ((fld_at v1).symm.trans (own_int j3))⟩
  obtain ⟨c2, v2⟩ := exa_v j6
  have S2 := Sta.start v2 (Or.inr ⟨(hw _ (List.mem_of_getElem? (i := 43) rfl)), (hw _ (List.mem_of_getElem? (i := 69) rfl))⟩)
  have R2 : own_R s c2 (2 : Int32) := ⟨Exa.start v2 j6, Fld.start ((fld_at v2).symm.trans (own_int j7))⟩
  obtain ⟨c3, v3⟩ := exa_v j4
  have S3 := Sta.start v3 (Or.inr ⟨(hw _ (List.mem_of_getElem? (i := 43) rfl)), (hw _ (List.mem_of_getElem? (i := 67) rfl))⟩)
  have R3 : own_R s c3 (3 : Int32) := ⟨Exa.start v3 j4, Fld.start ((fld_at v3).symm.trans (own_int j5))⟩
  obtain ⟨n, o, h1, h2, h3, _, L, rfl, ⟨rfl, N⟩, hq⟩ := own_law l s _ hw tables_1 c0 c1 c2 c3 c0 default i0 i1 i2 i3 i4 i5 s.heap s.heap.size (Old.start s) ⟨S0, S1, S2, S3, R0, R1, R2, R3⟩ p e ha hc hk s m _ below hf ((Spec.applies_iff_loose hf).mp happ).1 ⟨rfl, State.Warmed39.refl s, rfl⟩ trivial
  refine ⟨n, _, h1, h2, h3, hpost _ _ _ _ _ _ ⟨Cond.after_iff.mpr rfl, Cond.after_iff.mpr (eq_i res_at (Term.int_eval (1)) rfl), trivial⟩ ⟨hq.1, hq.2.1, (hq.2.2.sift fun y hy => Or.inr (N y hy)).mono (by decide) (by decide)⟩⟩
theorem main_1_1 : Claimed_1_1 := comes_1 fun _ _ _ _ _ _ h hF => ⟨h.1, hF⟩
theorem main_1_2 : Claimed_1_2 := comes_1 fun _ _ _ _ _ _ h hF => ⟨h.2.1, hF⟩
end Jvm.Pilot.@@N@@
namespace Jvm.Pilot.@@N@@
open Jvm Jvm.ClassFile Sem Op Lib Jvm.Free Jvm.Stand Jvm.Pilot.@@N@@.Jvm.D
/-! MADE BY PROGRAM (witnessworld.py) out of the Statement's table words and the real class files: 14 classes; the members and pool entries that the words name. The judged class is class 1, her method 2. -/
namespace start1
open Jvm.ClassFile
def u (s : String) : CpInfo := .utf8 (stringToUtf16 s)
/-- a pool by its gaps: so many unusable entries, then the entry; so many at the end -/
def gap : Nat → List CpInfo → List CpInfo
  | 0, r => r
  | n + 1, r => .unusable :: gap n r
def poolList (es : List (Nat × CpInfo)) (last : Nat) : List CpInfo := es.foldr (fun e r => gap e.1 (e.2 :: r)) (gap last [])
def pool (es : List (Nat × CpInfo)) (last : Nat) : Array CpInfo := ⟨poolList es last⟩
def fileOf (pool : Array CpInfo) (this : Nat) (attrs : Array Attribute := #[]) (ms : Array MethodInfo := #[]) (fl : Nat := 33) (sup : Nat := 0) (ifs : Array Nat := #[]) (fds : Array FieldInfo := #[]) : ClassFile where
  minorVersion := 0
  majorVersion := 65
  constantPool := pool
  accessFlags := fl
  thisClass := this
  superClass := sup
  interfaces := ifs
  fields := fds
  methods := ms
  attributes := attrs
def plain (name : String) (sup : Option ClassId) : Class where
  name := name
  kind := .ordinary
  loader := none
  accessFlags := 33
  super := sup
  interfaces := #[]
  cf := none
  fields := #[]
  methods := #[]
  instanceTypes := #[]
  staticTypes := #[]
  resolved := #[]
  callSites := []
  init := .initialized
  statics := none
  mirror := none

def pool0 : Array CpInfo := pool [(5, u "<init>"), (0, u "()V"), (1, .class_ 10), (1, u "java/lang/Object")] 113

def k0c0 : Code := { maxStack := 0, maxLocals := 1, code := object_method_1_code, exceptionTable := #[], attributes := #[] }
def k0m0 : Method := { name := "<init>", desc := "()V", sig := { parameters := [], returnType := none }, accessFlags := 1, code := some k0c0 }
/-- java/lang/Object -/
def k0 : Class := { plain "java/lang/Object" none with
  accessFlags := 33
  interfaces := #[]
  cf := some (fileOf pool0 8 #[] #[{ accessFlags := 1, nameIndex := 5, descriptorIndex := 6, attributes := #[] }] 33 0 #[] #[])
  fields := #[]
  methods := #[k0m0]
  instanceTypes := #[]
  staticTypes := #[]
  resolved := Array.replicate 124 none
  statics := none }

def pool1 : Array CpInfo := pool [(2, .class_ 4), (1, u "java/lang/Object"), (0, u "<init>"), (0, u "()V"), (0, .fieldref 8 9), (0, .class_ 10), (0, .nameAndType 11 12), (0, u "com/example/doorway/doorway/model/Region"), (0, u "REMAINDER"), (0, u "Lcom/example/doorway/doorway/model/Region;"), (0, .fieldref 8 14), (0, .nameAndType 15 12), (0, u "TRYING"), (0, .fieldref 8 17), (0, .nameAndType 18 12), (0, u "CRITICAL"), (0, .fieldref 8 20), (0, .nameAndType 21 12), (0, u "EXIT"), (0, .class_ 23), (0, u "com/example/doorway/doorway/checker/StateGraph"), (0, .methodref 22 25), (0, .nameAndType 5 26), (0, u "(IZ)V"), (0, .methodref 22 28), (0, .nameAndType 29 30), (0, u "add"), (0, u "(II)V"), (0, .methodref 32 33), (0, .class_ 34), (0, .nameAndType 35 36), (0, u "com/example/doorway/doorway/checker/StateGraphAtDoorwayPinLaw"), (0, u "region"), (0, u "(I)Lcom/example/doorway/doorway/model/Region;"), (0, .methodref 22 38), (0, .nameAndType 39 40), (0, u "step"), (0, u "(IILcom/example/doorway/doorway/model/Region;ZZI)V"), (0, .methodref 22 42), (0, .nameAndType 43 44), (0, u "atDoorway"), (0, u "(II)Z"), (3, u "law"), (0, u "(IIIIII)Z")] 2

def k1m0 : Method := { name := "<init>", desc := "()V", sig := { parameters := [], returnType := none }, accessFlags := 1, code := none }
def k1c1 : Code := { maxStack := 2, maxLocals := 1, code := method_2_code, exceptionTable := #[], attributes := #[] }
def k1m1 : Method := { name := "region", desc := "(I)Lcom/example/doorway/doorway/model/Region;", sig := { parameters := [.int], returnType := some (.object "com/example/doorway/doorway/model/Region") }, accessFlags := 10, code := some k1c1 }
def k1c2 : Code := { maxStack := 7, maxLocals := 21, code := code, exceptionTable := #[], attributes := #[] }
def k1m2 : Method := { name := "law", desc := "(IIIIII)Z", sig := { parameters := [.int, .int, .int, .int, .int, .int], returnType := some .boolean }, accessFlags := 9, code := some k1c2 }
/-- com/example/doorway/doorway/checker/StateGraphAtDoorwayPinLaw -/
def k1 : Class := { plain "com/example/doorway/doorway/checker/StateGraphAtDoorwayPinLaw" (some 0) with
  accessFlags := 49
  interfaces := #[]
  cf := some (fileOf pool1 32 #[] #[{ accessFlags := 1, nameIndex := 5, descriptorIndex := 6, attributes := #[] }, { accessFlags := 10, nameIndex := 35, descriptorIndex := 36, attributes := #[] }, { accessFlags := 9, nameIndex := 48, descriptorIndex := 49, attributes := #[] }] 49 2 #[] #[])
  fields := #[]
  methods := #[k1m0, k1m1, k1m2]
  instanceTypes := #[]
  staticTypes := #[]
  resolved := Array.replicate 52 none
  statics := none }

def pool2 : Array CpInfo := pool [(1, .methodref 2 3), (0, .class_ 4), (0, .nameAndType 5 6), (0, u "java/lang/Object"), (0, u "<init>"), (0, u "()V"), (0, .fieldref 8 9), (0, .class_ 10), (0, .nameAndType 11 12), (0, u "com/example/doorway/doorway/checker/StateGraph"), (0, u "parents"), (0, u "[I"), (0, .fieldref 8 14), (0, .nameAndType 15 12), (0, u "movers"), (0, .fieldref 8 17), (0, .nameAndType 18 19), (0, u "processes"), (0, u "I"), (0, .fieldref 8 21), (0, .nameAndType 22 23), (0, u "recordsSteps"), (0, u "Z"), (0, .methodref 8 25), (0, .nameAndType 26 27), (0, u "slots"), (0, u "(I)I"), (0, .fieldref 8 29), (0, .nameAndType 30 12), (0, u "successors"), (0, .fieldref 8 32), (0, .nameAndType 33 34), (0, u "facts"), (0, u "[B"), (0, .fieldref 8 36), (0, .nameAndType 37 19), (0, u "size"), (9, .methodref 48 49), (0, .class_ 50), (0, .nameAndType 51 52), (0, u "com/example/doorway/doorway/model/Region"), (0, u "ordinal"), (0, u "()I"), (2, u "REGIONS"), (0, u "[Lcom/example/doorway/doorway/model/Region;"), (3, u "(II)I"), (17, u "add"), (7, .methodref 87 88), (0, .class_ 89), (0, .nameAndType 90 60), (0, u "java/lang/Math"), (0, u "multiplyExact"), (4, u "CUT"), (2, u "REGION"), (1, u "WRITES"), (1, u "AT_DOORWAY"), (1, u "(IZ)V"), (5, u "(II)V"), (0, u "step"), (0, u "(IILcom/example/doorway/doorway/model/Region;ZZI)V"), (3, u "(II)Z"), (0, u "atDoorway")] 11

def k2c0 : Code := { maxStack := 3, maxLocals := 3, code := prog_46_method_1_code, exceptionTable := #[], attributes := #[] }
def k2m0 : Method := { name := "<init>", desc := "(IZ)V", sig := { parameters := [.int, .boolean], returnType := none }, accessFlags := 0, code := some k2c0 }
def k2c1 : Code := { maxStack := 4, maxLocals := 4, code := prog_46_method_5_code, exceptionTable := #[], attributes := #[] }
def k2m1 : Method := { name := "add", desc := "(II)V", sig := { parameters := [.int, .int], returnType := none }, accessFlags := 0, code := some k2c1 }
def k2c2 : Code := { maxStack := 4, maxLocals := 7, code := prog_46_method_6_code, exceptionTable := #[], attributes := #[] }
def k2m2 : Method := { name := "step", desc := "(IILcom/example/doorway/doorway/model/Region;ZZI)V", sig := { parameters := [.int, .int, (.object "com/example/doorway/doorway/model/Region"), .boolean, .boolean, .int], returnType := none }, accessFlags := 0, code := some k2c2 }
def k2c3 : Code := { maxStack := 3, maxLocals := 3, code := prog_46_method_11_code, exceptionTable := #[], attributes := #[] }
def k2m3 : Method := { name := "atDoorway", desc := "(II)Z", sig := { parameters := [.int, .int], returnType := some .boolean }, accessFlags := 0, code := some k2c3 }
def k2c4 : Code := { maxStack := 2, maxLocals := 2, code := prog_46_method_15_code, exceptionTable := #[], attributes := #[] }
def k2m4 : Method := { name := "slots", desc := "(I)I", sig := { parameters := [.int], returnType := some .int }, accessFlags := 2, code := some k2c4 }
/-- com/example/doorway/doorway/checker/StateGraph -/
def k2 : Class := { plain "com/example/doorway/doorway/checker/StateGraph" (some 0) with
  accessFlags := 48
  interfaces := #[]
  cf := some (fileOf pool2 8 #[] #[{ accessFlags := 0, nameIndex := 5, descriptorIndex := 104, attributes := #[] }, { accessFlags := 0, nameIndex := 78, descriptorIndex := 110, attributes := #[] }, { accessFlags := 0, nameIndex := 111, descriptorIndex := 112, attributes := #[] }, { accessFlags := 0, nameIndex := 117, descriptorIndex := 116, attributes := #[] }, { accessFlags := 2, nameIndex := 26, descriptorIndex := 27, attributes := #[] }] 48 2 #[] #[{ accessFlags := 24, nameIndex := 95, descriptorIndex := 19, attributes := #[] }, { accessFlags := 26, nameIndex := 55, descriptorIndex := 56, attributes := #[] }, { accessFlags := 26, nameIndex := 98, descriptorIndex := 19, attributes := #[] }, { accessFlags := 26, nameIndex := 100, descriptorIndex := 19, attributes := #[] }, { accessFlags := 26, nameIndex := 102, descriptorIndex := 19, attributes := #[] }, { accessFlags := 18, nameIndex := 18, descriptorIndex := 19, attributes := #[] }, { accessFlags := 18, nameIndex := 22, descriptorIndex := 23, attributes := #[] }, { accessFlags := 2, nameIndex := 37, descriptorIndex := 19, attributes := #[] }, { accessFlags := 2, nameIndex := 11, descriptorIndex := 12, attributes := #[] }, { accessFlags := 2, nameIndex := 15, descriptorIndex := 12, attributes := #[] }, { accessFlags := 2, nameIndex := 30, descriptorIndex := 12, attributes := #[] }, { accessFlags := 2, nameIndex := 33, descriptorIndex := 34, attributes := #[] }])
  fields := #[{ name := "CUT", type := .int, accessFlags := 24, slot := 0, constantValue := 0 }, { name := "REGIONS", type := (.array (.object "com/example/doorway/doorway/model/Region")), accessFlags := 26, slot := 1, constantValue := 0 }, { name := "REGION", type := .int, accessFlags := 26, slot := 2, constantValue := 0 }, { name := "WRITES", type := .int, accessFlags := 26, slot := 3, constantValue := 0 }, { name := "AT_DOORWAY", type := .int, accessFlags := 26, slot := 4, constantValue := 0 }, { name := "processes", type := .int, accessFlags := 18, slot := 0, constantValue := 0 }, { name := "recordsSteps", type := .boolean, accessFlags := 18, slot := 1, constantValue := 0 }, { name := "size", type := .int, accessFlags := 2, slot := 2, constantValue := 0 }, { name := "parents", type := (.array .int), accessFlags := 2, slot := 3, constantValue := 0 }, { name := "movers", type := (.array .int), accessFlags := 2, slot := 4, constantValue := 0 }, { name := "successors", type := (.array .int), accessFlags := 2, slot := 5, constantValue := 0 }, { name := "facts", type := (.array .byte), accessFlags := 2, slot := 6, constantValue := 0 }]
  methods := #[k2m0, k2m1, k2m2, k2m3, k2m4]
  instanceTypes := #[.int, .boolean, .int, (.array .int), (.array .int), (.array .int), (.array .byte)]
  staticTypes := #[.int, (.array (.object "com/example/doorway/doorway/model/Region")), .int, .int, .int]
  resolved := Array.replicate 129 none
  statics := none }

def pool3 : Array CpInfo := pool [(1, .class_ 2), (0, u "java/lang/Math"), (1, .class_ 6), (1, u "java/lang/Object"), (0, u "<init>"), (0, u "()V"), (89, .class_ 100), (1, u "java/lang/Math$RandomNumberGeneratorHolder"), (19, u "multiplyExact"), (51, u "negativeZeroFloatBits"), (0, u "J"), (2, u "negativeZeroDoubleBits"), (68, u "$assertionsDisabled"), (0, u "Z"), (88, u "(II)I"), (2, u "twoToTheDoubleScaleDown"), (0, u "D"), (4, u "twoToTheDoubleScaleUp"), (9, u "E"), (3, u "PI"), (2, u "TAU"), (2, u "DEGREES_TO_RADIANS"), (0, u "RADIANS_TO_DEGREES")] 94

def k3m0 : Method := { name := "<init>", desc := "()V", sig := { parameters := [], returnType := none }, accessFlags := 2, code := none }
def k3c1 : Code := { maxStack := 4, maxLocals := 4, code := jdk_29_method_28_code, exceptionTable := #[], attributes := #[] }
def k3m1 : Method := { name := "multiplyExact", desc := "(II)I", sig := { parameters := [.int, .int], returnType := some .int }, accessFlags := 9, code := some k3c1 }
/-- java/lang/Math -/
def k3 : Class := { plain "java/lang/Math" (some 0) with
  accessFlags := 49
  interfaces := #[]
  cf := some (fileOf pool3 1 #[.nestMembers #[98]] #[{ accessFlags := 2, nameIndex := 7, descriptorIndex := 8, attributes := #[] }, { accessFlags := 9, nameIndex := 120, descriptorIndex := 335, attributes := #[] }] 49 4 #[] #[{ accessFlags := 25, nameIndex := 354, descriptorIndex := 339, attributes := #[] }, { accessFlags := 25, nameIndex := 358, descriptorIndex := 339, attributes := #[] }, { accessFlags := 25, nameIndex := 361, descriptorIndex := 339, attributes := #[] }, { accessFlags := 26, nameIndex := 364, descriptorIndex := 339, attributes := #[] }, { accessFlags := 26, nameIndex := 365, descriptorIndex := 339, attributes := #[] }, { accessFlags := 26, nameIndex := 172, descriptorIndex := 173, attributes := #[] }, { accessFlags := 26, nameIndex := 176, descriptorIndex := 173, attributes := #[] }, { accessFlags := 8, nameIndex := 344, descriptorIndex := 339, attributes := #[] }, { accessFlags := 8, nameIndex := 338, descriptorIndex := 339, attributes := #[] }, { accessFlags := 4120, nameIndex := 245, descriptorIndex := 246, attributes := #[] }])
  fields := #[{ name := "E", type := .double, accessFlags := 25, slot := 0, constantValue := 0 }, { name := "PI", type := .double, accessFlags := 25, slot := 1, constantValue := 0 }, { name := "TAU", type := .double, accessFlags := 25, slot := 2, constantValue := 0 }, { name := "DEGREES_TO_RADIANS", type := .double, accessFlags := 26, slot := 3, constantValue := 0 }, { name := "RADIANS_TO_DEGREES", type := .double, accessFlags := 26, slot := 4, constantValue := 0 }, { name := "negativeZeroFloatBits", type := .long, accessFlags := 26, slot := 5, constantValue := 0 }, { name := "negativeZeroDoubleBits", type := .long, accessFlags := 26, slot := 6, constantValue := 0 }, { name := "twoToTheDoubleScaleUp", type := .double, accessFlags := 8, slot := 7, constantValue := 0 }, { name := "twoToTheDoubleScaleDown", type := .double, accessFlags := 8, slot := 8, constantValue := 0 }, { name := "$assertionsDisabled", type := .boolean, accessFlags := 4120, slot := 9, constantValue := 0 }]
  methods := #[k3m0, k3m1]
  instanceTypes := #[]
  staticTypes := #[.double, .double, .double, .double, .double, .long, .long, .double, .double, .boolean]
  resolved := Array.replicate 460 none
  statics := none }

def pool4 : Array CpInfo := pool [(1, .class_ 2), (0, u "java/lang/constant/Constable"), (0, .class_ 4), (0, u "java/lang/Object")] 6

/-- java/lang/constant/Constable -/
def k4 : Class := { plain "java/lang/constant/Constable" (some 0) with
  accessFlags := 1537
  interfaces := #[]
  cf := some (fileOf pool4 1 #[] #[] 1537 3 #[] #[])
  fields := #[]
  methods := #[]
  instanceTypes := #[]
  staticTypes := #[]
  resolved := Array.replicate 11 none
  statics := none }

def pool5 : Array CpInfo := pool [(1, .class_ 2), (0, u "java/lang/Comparable"), (0, .class_ 4), (0, u "java/lang/Object")] 7

/-- java/lang/Comparable -/
def k5 : Class := { plain "java/lang/Comparable" (some 0) with
  accessFlags := 1537
  interfaces := #[]
  cf := some (fileOf pool5 1 #[] #[] 1537 3 #[] #[])
  fields := #[]
  methods := #[]
  instanceTypes := #[]
  staticTypes := #[]
  resolved := Array.replicate 12 none
  statics := none }

def pool6 : Array CpInfo := pool [(1, .class_ 2), (0, u "java/io/Serializable"), (0, .class_ 4), (0, u "java/lang/Object")] 2

/-- java/io/Serializable -/
def k6 : Class := { plain "java/io/Serializable" (some 0) with
  accessFlags := 1537
  interfaces := #[]
  cf := some (fileOf pool6 1 #[] #[] 1537 3 #[] #[])
  fields := #[]
  methods := #[]
  instanceTypes := #[]
  staticTypes := #[]
  resolved := Array.replicate 7 none
  statics := none }

def pool7 : Array CpInfo := pool [(2, .class_ 4), (1, u "java/lang/Enum"), (0, u "name"), (0, u "Ljava/lang/String;"), (0, .fieldref 2 8), (0, .nameAndType 9 10), (0, u "ordinal"), (0, u "I"), (1, .class_ 14), (1, u "java/lang/Object"), (4, u "hash"), (86, .class_ 108), (1, u "java/lang/Enum$EnumDesc"), (2, .class_ 112), (0, u "java/lang/constant/Constable"), (0, .class_ 114), (0, u "java/lang/Comparable"), (0, .class_ 116), (0, u "java/io/Serializable"), (9, u "()I")] 77

def k7c0 : Code := { maxStack := 1, maxLocals := 1, code := jdk_37_method_2_code, exceptionTable := #[], attributes := #[] }
def k7m0 : Method := { name := "ordinal", desc := "()I", sig := { parameters := [], returnType := some .int }, accessFlags := 17, code := some k7c0 }
/-- java/lang/Enum -/
def k7 : Class := { plain "java/lang/Enum" (some 0) with
  accessFlags := 1057
  interfaces := #[4, 5, 6]
  cf := some (fileOf pool7 2 #[.nestMembers #[106]] #[{ accessFlags := 17, nameIndex := 9, descriptorIndex := 126, attributes := #[] }] 1057 12 #[111, 113, 115] #[{ accessFlags := 18, nameIndex := 5, descriptorIndex := 6, attributes := #[] }, { accessFlags := 18, nameIndex := 9, descriptorIndex := 10, attributes := #[] }, { accessFlags := 2, nameIndex := 19, descriptorIndex := 10, attributes := #[] }])
  fields := #[{ name := "name", type := (.object "java/lang/String"), accessFlags := 18, slot := 0, constantValue := 0 }, { name := "ordinal", type := .int, accessFlags := 18, slot := 1, constantValue := 0 }, { name := "hash", type := .int, accessFlags := 2, slot := 2, constantValue := 0 }]
  methods := #[k7m0]
  instanceTypes := #[(.object "java/lang/String"), .int, .int]
  staticTypes := #[]
  resolved := Array.replicate 204 none
  statics := none }

def pool8 : Array CpInfo := pool [(1, .class_ 2), (0, u "com/example/doorway/doorway/model/Region"), (2, u "REMAINDER"), (0, u "Lcom/example/doorway/doorway/model/Region;"), (2, u "TRYING"), (2, u "CRITICAL"), (2, u "EXIT"), (2, u "$VALUES"), (0, u "[Lcom/example/doorway/doorway/model/Region;"), (6, .class_ 28), (1, u "java/lang/Enum")] 26

/-- com/example/doorway/doorway/model/Region -/
def k8 : Class := { plain "com/example/doorway/doorway/model/Region" (some 7) with
  accessFlags := 16433
  interfaces := #[]
  cf := some (fileOf pool8 1 #[] #[] 16433 26 #[] #[{ accessFlags := 16409, nameIndex := 5, descriptorIndex := 6, attributes := #[] }, { accessFlags := 16409, nameIndex := 9, descriptorIndex := 6, attributes := #[] }, { accessFlags := 16409, nameIndex := 12, descriptorIndex := 6, attributes := #[] }, { accessFlags := 16409, nameIndex := 15, descriptorIndex := 6, attributes := #[] }, { accessFlags := 4122, nameIndex := 18, descriptorIndex := 19, attributes := #[] }])
  fields := #[{ name := "REMAINDER", type := (.object "com/example/doorway/doorway/model/Region"), accessFlags := 16409, slot := 0, constantValue := 0 }, { name := "TRYING", type := (.object "com/example/doorway/doorway/model/Region"), accessFlags := 16409, slot := 1, constantValue := 0 }, { name := "CRITICAL", type := (.object "com/example/doorway/doorway/model/Region"), accessFlags := 16409, slot := 2, constantValue := 0 }, { name := "EXIT", type := (.object "com/example/doorway/doorway/model/Region"), accessFlags := 16409, slot := 3, constantValue := 0 }, { name := "$VALUES", type := (.array (.object "com/example/doorway/doorway/model/Region")), accessFlags := 4122, slot := 4, constantValue := 0 }]
  methods := #[]
  instanceTypes := #[(.object "java/lang/String"), .int, .int]
  staticTypes := #[(.object "com/example/doorway/doorway/model/Region"), (.object "com/example/doorway/doorway/model/Region"), (.object "com/example/doorway/doorway/model/Region"), (.object "com/example/doorway/doorway/model/Region"), (.array (.object "com/example/doorway/doorway/model/Region"))]
  resolved := Array.replicate 55 none
  statics := some 0 }

def pool9 : Array CpInfo := pool [(1, u "java/lang/Cloneable"), (0, .class_ 1), (0, u "java/lang/Object"), (0, .class_ 3)] 3

/-- java/lang/Cloneable -/
def k9 : Class := { plain "java/lang/Cloneable" (some 0) with
  accessFlags := 1537
  interfaces := #[]
  cf := some (fileOf pool9 2 #[] #[] 1537 4 #[] #[])
  fields := #[]
  methods := #[]
  instanceTypes := #[]
  staticTypes := #[]
  resolved := Array.replicate 8 none
  statics := none }

/-- the primitive byte -/
def k10 : Class := { plain "byte" none with kind := .primitive 'B', accessFlags := 0x411 }
/-- [B -/
def k11 : Class := { plain "[B" (some 0) with kind := .array 10 .byte, interfaces := #[9, 6], accessFlags := 1041 }

/-- the primitive int -/
def k12 : Class := { plain "int" none with kind := .primitive 'I', accessFlags := 0x411 }
/-- [I -/
def k13 : Class := { plain "[I" (some 0) with kind := .array 12 .int, interfaces := #[9, 6], accessFlags := 1041 }

def heap : Heap := #[{ cls := 8, slots := #[.ref 1, .ref 2, .ref 4, .ref 3, .null], vm := .statics 8 },
  { cls := 8, slots := #[.null, .int 0, .int 0], vm := .none },
  { cls := 8, slots := #[.null, .int 1, .int 0], vm := .none },
  { cls := 8, slots := #[.null, .int 3, .int 0], vm := .none },
  { cls := 8, slots := #[.null, .int 2, .int 0], vm := .none }]
def classes : Array Class := #[k0, k1, k2, k3, k4, k5, k6, k7, k8, k9, k10, k11, k12, k13]
def interned : List (Array UInt16 × Addr) := []
def slotsUsed : Nat := 17
def theMethod : MethodId := ⟨1, 2⟩
def args0 : Array Value := #[.int 1, .int 1, .int 1, .int 1, .int 1, .int 1]
def aboutOver (below : List Frame) : State where
  vm := { classes := classes, interned := interned.toArray }
  heap := heap
  slotsUsed := slotsUsed
  threads := #[{ frames := .invoking theMethod args0 :: below }]
def below0 : List Frame := [.native { method := ⟨0, 0⟩, args := #[] }]
def about1 : State := aboutOver below0
def p0 : Program := .bare "" "" ""
def e0 : Env := launch0.env 0 0 0
theorem w_frames : about1.frames = Frame.invoking theMethod args0 :: below0 := rfl
set_option maxRecDepth 65536 in
theorem w_args : argsFit about1.vm theMethod args0 = true := by decide +kernel
set_option maxRecDepth 65536 in
theorem w_heap : heapFits about1 = true := by decide +kernel
set_option maxRecDepth 65536 in
theorem w_runnable : about1.curStatus? = some .runnable := by decide +kernel
set_option maxRecDepth 65536 in
theorem w_alone : about1.alone = true := by decide +kernel
set_option maxRecDepth 65536 in
theorem w_named : about1.methodNamed? x = some theMethod := by decide +kernel
set_option maxRecDepth 65536 in
theorem w_hears : about1.hears theMethod below0 = true := by decide +kernel
set_option maxRecDepth 65536 in
theorem w_ripe : about1.ripe theMethod args0 below0 = true := by decide +kernel
theorem w_running : about1.status = .running := rfl
set_option maxRecDepth 65536 in
theorem w_room : about1.hasRoom e0.platform room_1 = true :=
  launch0.hasRoom_least _ room_1 (by decide +kernel) (by decide +kernel) (by decide +kernel) (by decide +kernel) (by decide +kernel) (by decide +kernel)
theorem allAtoms_all (ts : List Jvm.Cond) (a : Array Jvm.Value) (st : Jvm.State) : (allAtoms ts).before a st = ts.all (fun c => c.before a st) := by
  induction ts with
  | nil => rfl
  | cons c t ih =>
    show (Jvm.Cond.and c (allAtoms t)).before a st = _
    rw [Jvm.Cond.before_and, ih, List.all_cons]
def words1 : List Jvm.Cond := Jvm.Cond.code x code maxLocals ret :: tables_1
/-- a 'code' word, met by the world's own term for the bytes: nothing is compared byte by byte -/
theorem code_word {y : MethodName} {bytes : ByteArray} {mx : Nat} {rt : Option FieldType} {a : Array Value} {s : State} {m : MethodId} {meth : Method} {c : Code} (h1 : s.methodNamed? y = some m) (h2 : s.vm.method? m = some meth) (h3 : meth.code = some c) (h4 : c.code = bytes)
    (h5 : (c.maxLocals == mx && c.exceptionTable.isEmpty && decide (c.maxStack ≤ mostOperands) && decide (meth.sig.returnType = rt) && !meth.locks && decide (parseMethodDescriptor y.desc = some meth.sig)) = true) : (Jvm.Cond.code y bytes mx rt).before a s = true := by
  simp only [Bool.and_eq_true, beq_iff_eq, Bool.not_eq_true', decide_eq_true_eq] at h5
  obtain ⟨⟨⟨⟨⟨g1, g2⟩, g3⟩, g4⟩, g5⟩, g6⟩ := h5
  simp [Cond.before, Cond.holds, Cond.value, h1, h2, h3, h4, g1, g2, g3, g4, g5, g6]
def isCode : Jvm.Cond → Bool
  | .code _ _ _ _ => true
  | _ => false
theorem all_split {L : List Jvm.Cond} {P : Jvm.Cond → Bool} (h1 : L.all (fun c => isCode c || P c) = true) (h2 : ∀ c ∈ L.filter isCode, P c = true) : L.all P = true := by
  refine List.all_eq_true.mpr fun c hc => ?_
  have h := List.all_eq_true.mp h1 c hc
  rcases Bool.eq_false_or_eq_true (isCode c) with hi | hi
  · exact h2 c (List.mem_filter.mpr ⟨hc, hi⟩)
  · simpa [hi] using h
set_option maxRecDepth 65536 in
theorem w_c0 : (Jvm.Cond.code x code maxLocals ret).before args0 about1 = true := code_word (m := ⟨1, 2⟩) (meth := k1m2) (c := k1c2) (by decide +kernel) rfl rfl rfl (by decide +kernel)
set_option maxRecDepth 65536 in
theorem w_c1 : (Jvm.Cond.code ({ cls := "com/example/doorway/doorway/checker/StateGraph", name := "<init>", desc := "(IZ)V" } : Jvm.MethodName) prog_46_method_1_code (3 : Nat) (Option.none : Option Jvm.ClassFile.FieldType)).before args0 about1 = true := code_word (m := ⟨2, 0⟩) (meth := k2m0) (c := k2c0) (by decide +kernel) rfl rfl rfl (by decide +kernel)
set_option maxRecDepth 65536 in
theorem w_c2 : (Jvm.Cond.code ({ cls := "java/lang/Object", name := "<init>", desc := "()V" } : Jvm.MethodName) object_method_1_code (1 : Nat) (Option.none : Option Jvm.ClassFile.FieldType)).before args0 about1 = true := code_word (m := ⟨0, 0⟩) (meth := k0m0) (c := k0c0) (by decide +kernel) rfl rfl rfl (by decide +kernel)
set_option maxRecDepth 65536 in
theorem w_c3 : (Jvm.Cond.code ({ cls := "com/example/doorway/doorway/checker/StateGraph", name := "slots", desc := "(I)I" } : Jvm.MethodName) prog_46_method_15_code (2 : Nat) (Option.some Jvm.ClassFile.FieldType.int)).before args0 about1 = true := code_word (m := ⟨2, 4⟩) (meth := k2m4) (c := k2c4) (by decide +kernel) rfl rfl rfl (by decide +kernel)
set_option maxRecDepth 65536 in
theorem w_c4 : (Jvm.Cond.code ({ cls := "java/lang/Math", name := "multiplyExact", desc := "(II)I" } : Jvm.MethodName) jdk_29_method_28_code (4 : Nat) (Option.some Jvm.ClassFile.FieldType.int)).before args0 about1 = true := code_word (m := ⟨3, 1⟩) (meth := k3m1) (c := k3c1) (by decide +kernel) rfl rfl rfl (by decide +kernel)
set_option maxRecDepth 65536 in
theorem w_c5 : (Jvm.Cond.code ({ cls := "com/example/doorway/doorway/checker/StateGraph", name := "add", desc := "(II)V" } : Jvm.MethodName) prog_46_method_5_code (4 : Nat) (Option.none : Option Jvm.ClassFile.FieldType)).before args0 about1 = true := code_word (m := ⟨2, 1⟩) (meth := k2m1) (c := k2c1) (by decide +kernel) rfl rfl rfl (by decide +kernel)
set_option maxRecDepth 65536 in
theorem w_c6 : (Jvm.Cond.code ({ cls := "com/example/doorway/doorway/checker/StateGraphAtDoorwayPinLaw", name := "region", desc := "(I)Lcom/example/doorway/doorway/model/Region;" } : Jvm.MethodName) method_2_code (1 : Nat) (Option.some (Jvm.ClassFile.FieldType.object "com/example/doorway/doorway/model/Region"))).before args0 about1 = true := code_word (m := ⟨1, 1⟩) (meth := k1m1) (c := k1c1) (by decide +kernel) rfl rfl rfl (by decide +kernel)
set_option maxRecDepth 65536 in
theorem w_c7 : (Jvm.Cond.code ({ cls := "com/example/doorway/doorway/checker/StateGraph", name := "step", desc := "(IILcom/example/doorway/doorway/model/Region;ZZI)V" } : Jvm.MethodName) prog_46_method_6_code (7 : Nat) (Option.none : Option Jvm.ClassFile.FieldType)).before args0 about1 = true := code_word (m := ⟨2, 2⟩) (meth := k2m2) (c := k2c2) (by decide +kernel) rfl rfl rfl (by decide +kernel)
set_option maxRecDepth 65536 in
theorem w_c8 : (Jvm.Cond.code ({ cls := "java/lang/Enum", name := "ordinal", desc := "()I" } : Jvm.MethodName) jdk_37_method_2_code (1 : Nat) (Option.some Jvm.ClassFile.FieldType.int)).before args0 about1 = true := code_word (m := ⟨7, 0⟩) (meth := k7m0) (c := k7c0) (by decide +kernel) rfl rfl rfl (by decide +kernel)
set_option maxRecDepth 65536 in
theorem w_c9 : (Jvm.Cond.code ({ cls := "com/example/doorway/doorway/checker/StateGraph", name := "atDoorway", desc := "(II)Z" } : Jvm.MethodName) prog_46_method_11_code (3 : Nat) (Option.some Jvm.ClassFile.FieldType.boolean)).before args0 about1 = true := code_word (m := ⟨2, 3⟩) (meth := k2m3) (c := k2c3) (by decide +kernel) rfl rfl rfl (by decide +kernel)
def codes1 : List Jvm.Cond := [Jvm.Cond.code x code maxLocals ret, Jvm.Cond.code ({ cls := "com/example/doorway/doorway/checker/StateGraph", name := "<init>", desc := "(IZ)V" } : Jvm.MethodName) prog_46_method_1_code (3 : Nat) (Option.none : Option Jvm.ClassFile.FieldType), Jvm.Cond.code ({ cls := "java/lang/Object", name := "<init>", desc := "()V" } : Jvm.MethodName) object_method_1_code (1 : Nat) (Option.none : Option Jvm.ClassFile.FieldType), Jvm.Cond.code ({ cls := "com/example/doorway/doorway/checker/StateGraph", name := "slots", desc := "(I)I" } : Jvm.MethodName) prog_46_method_15_code (2 : Nat) (Option.some Jvm.ClassFile.FieldType.int), Jvm.Cond.code ({ cls := "java/lang/Math", name := "multiplyExact", desc := "(II)I" } : Jvm.MethodName) jdk_29_method_28_code (4 : Nat) (Option.some Jvm.ClassFile.FieldType.int), Jvm.Cond.code ({ cls := "com/example/doorway/doorway/checker/StateGraph", name := "add", desc := "(II)V" } : Jvm.MethodName) prog_46_method_5_code (4 : Nat) (Option.none : Option Jvm.ClassFile.FieldType), Jvm.Cond.code ({ cls := "com/example/doorway/doorway/checker/StateGraphAtDoorwayPinLaw", name := "region", desc := "(I)Lcom/example/doorway/doorway/model/Region;" } : Jvm.MethodName) method_2_code (1 : Nat) (Option.some (Jvm.ClassFile.FieldType.object "com/example/doorway/doorway/model/Region")), Jvm.Cond.code ({ cls := "com/example/doorway/doorway/checker/StateGraph", name := "step", desc := "(IILcom/example/doorway/doorway/model/Region;ZZI)V" } : Jvm.MethodName) prog_46_method_6_code (7 : Nat) (Option.none : Option Jvm.ClassFile.FieldType), Jvm.Cond.code ({ cls := "java/lang/Enum", name := "ordinal", desc := "()I" } : Jvm.MethodName) jdk_37_method_2_code (1 : Nat) (Option.some Jvm.ClassFile.FieldType.int), Jvm.Cond.code ({ cls := "com/example/doorway/doorway/checker/StateGraph", name := "atDoorway", desc := "(II)Z" } : Jvm.MethodName) prog_46_method_11_code (3 : Nat) (Option.some Jvm.ClassFile.FieldType.boolean)]
set_option maxRecDepth 65536 in
theorem codes_eq : words1.filter isCode = codes1 := rfl
theorem w_codes : ∀ c ∈ words1.filter isCode, c.before args0 about1 = true := by
  rw [codes_eq]
  intro c hc
  simp only [codes1, List.mem_cons, List.not_mem_nil, or_false] at hc
  rcases hc with rfl | rfl | rfl | rfl | rfl | rfl | rfl | rfl | rfl | rfl
  · exact w_c0
  · exact w_c1
  · exact w_c2
  · exact w_c3
  · exact w_c4
  · exact w_c5
  · exact w_c6
  · exact w_c7
  · exact w_c8
  · exact w_c9
set_option maxRecDepth 65536 in
theorem w_t1 : (words1.take 24).all (fun c => isCode c || c.before args0 about1) = true := by decide +kernel
set_option maxRecDepth 65536 in
theorem w_t2 : ((words1.drop 24).take 24).all (fun c => isCode c || c.before args0 about1) = true := by decide +kernel
set_option maxRecDepth 65536 in
theorem w_t3 : ((words1.drop 24).drop 24).all (fun c => isCode c || c.before args0 about1) = true := by decide +kernel
theorem w_tables : (allAtoms (Jvm.Cond.code x code maxLocals ret :: tables_1)).before args0 about1 = true := by
  rw [allAtoms_all]
  show words1.all (fun c => c.before args0 about1) = true
  refine all_split ?_ w_codes
  rw [← List.take_append_drop 24 words1, List.all_append, w_t1, ← List.take_append_drop 24 (words1.drop 24), List.all_append, w_t2, w_t3]
  rfl
set_option maxRecDepth 65536 in
theorem w_case : (Jvm.Cond.and given_1 narrow_1).before args0 about1 = true := by decide +kernel
theorem w_applies : (headSpec (Jvm.Cond.code x code maxLocals ret :: tables_1) room_1).applies x e0.platform about1 = true :=
  (Spec.applies_iff w_frames).mpr ⟨w_running, w_runnable, w_alone, w_named, w_hears, w_ripe, w_room, w_tables⟩
theorem atStart : AtStart classFile x code maxLocals ret World_1 tables_1 room_1 Calls_1 rest_1 Pre_1 launch0 p0 e0 about1 theMethod args0 below0 :=
  ⟨lists_1, trivial, launch0.admits_env _ _ _, launch0.least_env, fairChoices_fair.cas, fairChoices_fair.clock, w_frames, w_args, w_heap, w_applies, trivial, trivial, w_case⟩
end start1
theorem witness_1 : WitnessClaimed_1 := ⟨start1.p0, start1.e0, start1.about1, start1.theMethod, start1.args0, start1.below0, start1.atStart⟩
end Jvm.Pilot.@@N@@
