import JvmDerived
import JvmDerived.Pilot.@@N@@Statement
import JvmDerived.Pilot.@@N@@Code
set_option linter.unusedVariables false
set_option linter.unusedSimpArgs false
namespace Jvm.RoadKit
open Sem ClassFile Op Lib Jvm.Stand Jvm.Free Jvm.LawKit
section New
variable {p : Program} {l : Launch} {e : Env} {R : Room} {s : State} {m : MethodId} {args : Array Value} {below : List Frame} {meth : Method} {c : Code} {T : State} {locs : List Loc} {cells slots : Nat}
theorem retI (X : Stand p l e R s m args below meth c T locs cells slots) (hx : p.tables.exec = Jvm.exec) {pc : Nat} {Ls : Array Slot} {z : Int32} {rest : List Value} (hret : meth.sig.returnType = some .int) (hd : decode c.code pc = .ok (.ireturn, 1)) {fs : List Frame}
    (hl : ∀ (f : JFrame) (acts : List Action), f.method = m → f.locked = none → f.entered = [] → (doReturn e (T.setTop f) acts (some (.int z))).1 = T.setFrames fs) : Steps p.tables e below (T.setTop (mkF m pc Ls (.int z :: rest))) (T.setFrames fs) := by
  have hm' : T.vm.method? m = some meth := X.method'
  have hn : narrow .int (.int z) = .int z := rfl
  show Steps p.tables e below (T.setTop { method := m, pc := pc, locals := Ls, stack := _ :: rest, locked := none }) _
  jvm_step X.here [X.here.top, hx, hd, hm', hret, hn]
  first | (intro acts; rw [hl _ acts rfl rfl rfl]) | rw [hl _ _ rfl rfl rfl]
  exact Steps.refl _
end New
end Jvm.RoadKit
namespace Jvm.Pilot.@@N@@
open Jvm Jvm.ClassFile Sem Op Lib Jvm.Free Jvm.Stand Jvm.LawKit Jvm.RoadKit Bundle Jvm.Pilot.@@N@@.Jvm.D
def own_Go {p : Program} {l : Launch} {e : Env} {R : Room} {s : State} {m : MethodId} {args : Array Value} {below : List Frame} {meth : Method} {c : Code} {T : State} {locs : List Loc} {cells slots : Nat} (_ : Stand p l e R s m args below meth c T locs cells slots) (h : Heap) (T' : State) : Prop := Stand p l e R s m args below meth c T' locs cells slots ∧ T'.heap = h
def own_P (r : Value) (h0 : Heap) (v : Option Value) (h : Heap) (L : List Loc) : Prop := v = some r ∧ L = [] ∧ h = h0
def own_dig (v : Int64) : Int32 := if v < (10 : Int64) then (1 : Int32) else if v < (100 : Int64) then (2 : Int32) else if v < (1000 : Int64) then (3 : Int32) else if v < (10000 : Int64) then (4 : Int32) else if v < (100000 : Int64) then (5 : Int32) else if v < (1000000 : Int64) then (6 : Int32) else if v < (10000000 : Int64) then (7 : Int32) else if v < (100000000 : Int64) then (8 : Int32) else if v < (1000000000 : Int64) then (9 : Int32) else if v < (10000000000 : Int64) then (10 : Int32) else if v < (100000000000 : Int64) then (11 : Int32) else if v < (1000000000000 : Int64) then (12 : Int32) else if v < (10000000000000 : Int64) then (13 : Int32) else if v < (100000000000000 : Int64) then (14 : Int32) else if v < (1000000000000000 : Int64) then (15 : Int32) else if v < (10000000000000000 : Int64) then (16 : Int32) else if v < (100000000000000000 : Int64) then (17 : Int32) else if v < (1000000000000000000 : Int64) then (18 : Int32) else (19 : Int32)
def own_pw (i : Nat) : Int64 := [(1 : Int64), (10 : Int64), (100 : Int64), (1000 : Int64), (10000 : Int64), (100000 : Int64), (1000000 : Int64), (10000000 : Int64), (100000000 : Int64), (1000000000 : Int64), (10000000000 : Int64), (100000000000 : Int64), (1000000000000 : Int64), (10000000000000 : Int64), (100000000000000 : Int64), (1000000000000000 : Int64), (10000000000000000 : Int64), (100000000000000000 : Int64), (1000000000000000000 : Int64)].getD i (0 : Int64)
def own_W (Z : State) (a : Addr) (cl : Cell) : Prop := Sta Z Z.heap "com/example/midpoint/midpoint/digits/PowersOfTen" "POWERS" "[J" (.ref a) ∧ Arr Z Z.heap a cl .long ∧ cl.slots.size = 19 ∧ ∀ i, i < 19 → cl.slots[i]? = some (.long (own_pw i))
theorem own_i32 {z k : Int32} (h : z.toInt = k.toInt) : z = k := Int32.toInt_inj.mp h
theorem own_nst (k : Nat) {x n x' n' lim q dn : Int32} {j : Nat} (hk : 0 < k) (hlim : lim.toInt = ((2 ^ k : Nat) : Int)) (hq : q.toBitVec.toNat % 32 = k) (hdn : dn.toInt = -(k : Int)) (hk2 : k ≤ 16)
    (h1 : ((2 ^ j : Nat) : Int) ≤ x.toInt) (h2 : x.toInt < ((2 ^ (j + 1) : Nat) : Int)) (hj : j < 2 * k) (hn : (j : Int) ≤ n.toInt) (hn2 : n.toInt ≤ 31)
    (rel : (x < lim ∧ x' = x ∧ n' = n) ∨ (¬ (x < lim) ∧ x' = ((x.toUInt32 >>> (q &&& 31).toUInt32).toInt32) ∧ n' = (n + dn))) :
    ∃ j', j' < k ∧ ((2 ^ j' : Nat) : Int) ≤ x'.toInt ∧ x'.toInt < ((2 ^ (j' + 1) : Nat) : Int) ∧ n'.toInt - j' = n.toInt - j ∧ (j' : Int) ≤ n'.toInt ∧ n'.toInt ≤ 31 := by
  rcases rel with ⟨a, rfl, rfl⟩ | ⟨a, rfl, rfl⟩
  · rw [Int32.lt_iff_toInt_lt, hlim] at a
    refine ⟨j, ?_, h1, h2, rfl, hn, hn2⟩
    have h3 : (2 ^ j : Nat) < 2 ^ k := by omega
    exact (Nat.pow_lt_pow_iff_right (by decide)).mp h3
  · rw [Int32.lt_iff_toInt_lt, hlim] at a
    have h3 : (2 ^ k : Nat) < 2 ^ (j + 1) := by omega
    have h4 : k < j + 1 := (Nat.pow_lt_pow_iff_right (by decide)).mp h3
    have h5 := c_iushr x q k hq hk
    have h6 := rng32 x
    have h11 : (0 : Int) ≤ x.toInt := by have := Nat.zero_le (2 ^ j); omega
    have h7 : x.toInt % 4294967296 = x.toInt := by omega
    rw [h7] at h5
    have e1 : (2 ^ j : Nat) = 2 ^ (j - k) * 2 ^ k := by rw [← Nat.pow_add]; congr 1; omega
    have e2 : (2 ^ (j + 1) : Nat) = 2 ^ (j - k + 1) * 2 ^ k := by rw [← Nat.pow_add]; congr 1; omega
    have hp : (0 : Int) < ((2 ^ k : Nat) : Int) := by have := Nat.two_pow_pos k; omega
    have h8 := c_iadd n dn
    have h9 := rng32 (n + dn)
    rw [hdn] at h8
    have h10 : (n + dn).toInt = n.toInt - k := by omega
    refine ⟨j - k, by omega, ?_, ?_, by rw [h10]; omega, by rw [h10]; omega, by rw [h10]; omega⟩
    · rw [h5]; exact (Int.le_ediv_iff_mul_le hp).mpr (by rw [← Int.natCast_mul, ← e1]; exact h1)
    · rw [h5]; exact (Int.ediv_lt_iff_lt_mul hp).mpr (by rw [← Int.natCast_mul, ← e2]; exact h2)
def own_B32 (i z : Int32) : Prop := ∃ j : Nat, j < 32 ∧ ((2 ^ j : Nat) : Int) ≤ i.toInt % 4294967296 ∧ i.toInt % 4294967296 < ((2 ^ (j + 1) : Nat) : Int) ∧ z.toInt = 31 - j
def own_Q32 (i : Int32) (h0 : Heap) (v : Option Value) (h : Heap) (L : List Loc) : Prop := ∃ z : Int32, v = some (.int z) ∧ L = [] ∧ h = h0 ∧ own_B32 i z
theorem own_exj (i : Int32) (h : (0 : Int32) < i) : ∃ j : Nat, j < 31 ∧ ((2 ^ j : Nat) : Int) ≤ i.toInt ∧ i.toInt < ((2 ^ (j + 1) : Nat) : Int) := by
  have h0 : (0 : Int) < i.toInt := by rw [Int32.lt_iff_toInt_lt] at h; exact h
  have h6 := (rng32 i).2
  have hn : i.toInt.toNat ≠ 0 := by omega
  have hl : i.toInt.toNat < 2 ^ 31 := by omega
  refine ⟨i.toInt.toNat.log2, (Nat.log2_lt hn).mpr hl, ?_, ?_⟩
  · have := Nat.log2_self_le hn; omega
  · have := Nat.lt_log2_self (n := i.toInt.toNat); omega
theorem own_d4_0 : decode jdk_33_method_47_code 0 = .ok (.iload_n 0, 1) := by decide +kernel
theorem own_d4_1 : decode jdk_33_method_47_code 1 = .ok (.ifCond .gt 14, 3) := by decide +kernel
theorem own_d4_15 : decode jdk_33_method_47_code 15 = .ok (.bipush 31, 2) := by decide +kernel
theorem own_d4_17 : decode jdk_33_method_47_code 17 = .ok (.istore_n 1, 1) := by decide +kernel
theorem own_d4_18 : decode jdk_33_method_47_code 18 = .ok (.iload_n 0, 1) := by decide +kernel
theorem own_d4_19 : decode jdk_33_method_47_code 19 = .ok (.ldc_w 264, 3) := by decide +kernel
theorem own_d4_22 : decode jdk_33_method_47_code 22 = .ok (.if_icmp .lt 11, 3) := by decide +kernel
theorem own_d4_25 : decode jdk_33_method_47_code 25 = .ok (.iinc 1 (-16), 3) := by decide +kernel
theorem own_d4_28 : decode jdk_33_method_47_code 28 = .ok (.iload_n 0, 1) := by decide +kernel
theorem own_d4_29 : decode jdk_33_method_47_code 29 = .ok (.bipush 16, 2) := by decide +kernel
theorem own_d4_31 : decode jdk_33_method_47_code 31 = .ok (.iushr, 1) := by decide +kernel
theorem own_d4_32 : decode jdk_33_method_47_code 32 = .ok (.istore_n 0, 1) := by decide +kernel
theorem own_d4_33 : decode jdk_33_method_47_code 33 = .ok (.iload_n 0, 1) := by decide +kernel
theorem own_d4_34 : decode jdk_33_method_47_code 34 = .ok (.sipush 256, 3) := by decide +kernel
theorem own_d4_37 : decode jdk_33_method_47_code 37 = .ok (.if_icmp .lt 11, 3) := by decide +kernel
theorem own_d4_40 : decode jdk_33_method_47_code 40 = .ok (.iinc 1 (-8), 3) := by decide +kernel
theorem own_d4_43 : decode jdk_33_method_47_code 43 = .ok (.iload_n 0, 1) := by decide +kernel
theorem own_d4_44 : decode jdk_33_method_47_code 44 = .ok (.bipush 8, 2) := by decide +kernel
theorem own_d4_46 : decode jdk_33_method_47_code 46 = .ok (.iushr, 1) := by decide +kernel
theorem own_d4_47 : decode jdk_33_method_47_code 47 = .ok (.istore_n 0, 1) := by decide +kernel
theorem own_d4_48 : decode jdk_33_method_47_code 48 = .ok (.iload_n 0, 1) := by decide +kernel
theorem own_d4_49 : decode jdk_33_method_47_code 49 = .ok (.bipush 16, 2) := by decide +kernel
theorem own_d4_51 : decode jdk_33_method_47_code 51 = .ok (.if_icmp .lt 10, 3) := by decide +kernel
theorem own_d4_54 : decode jdk_33_method_47_code 54 = .ok (.iinc 1 (-4), 3) := by decide +kernel
theorem own_d4_57 : decode jdk_33_method_47_code 57 = .ok (.iload_n 0, 1) := by decide +kernel
theorem own_d4_58 : decode jdk_33_method_47_code 58 = .ok (.iconst 4, 1) := by decide +kernel
theorem own_d4_59 : decode jdk_33_method_47_code 59 = .ok (.iushr, 1) := by decide +kernel
theorem own_d4_60 : decode jdk_33_method_47_code 60 = .ok (.istore_n 0, 1) := by decide +kernel
theorem own_d4_61 : decode jdk_33_method_47_code 61 = .ok (.iload_n 0, 1) := by decide +kernel
theorem own_d4_62 : decode jdk_33_method_47_code 62 = .ok (.iconst 4, 1) := by decide +kernel
theorem own_d4_63 : decode jdk_33_method_47_code 63 = .ok (.if_icmp .lt 10, 3) := by decide +kernel
theorem own_d4_66 : decode jdk_33_method_47_code 66 = .ok (.iinc 1 (-2), 3) := by decide +kernel
theorem own_d4_69 : decode jdk_33_method_47_code 69 = .ok (.iload_n 0, 1) := by decide +kernel
theorem own_d4_70 : decode jdk_33_method_47_code 70 = .ok (.iconst 2, 1) := by decide +kernel
theorem own_d4_71 : decode jdk_33_method_47_code 71 = .ok (.iushr, 1) := by decide +kernel
theorem own_d4_72 : decode jdk_33_method_47_code 72 = .ok (.istore_n 0, 1) := by decide +kernel
theorem own_d4_73 : decode jdk_33_method_47_code 73 = .ok (.iload_n 1, 1) := by decide +kernel
theorem own_d4_74 : decode jdk_33_method_47_code 74 = .ok (.iload_n 0, 1) := by decide +kernel
theorem own_d4_75 : decode jdk_33_method_47_code 75 = .ok (.iconst 1, 1) := by decide +kernel
theorem own_d4_76 : decode jdk_33_method_47_code 76 = .ok (.iushr, 1) := by decide +kernel
theorem own_d4_77 : decode jdk_33_method_47_code 77 = .ok (.isub, 1) := by decide +kernel
theorem own_d4_78 : decode jdk_33_method_47_code 78 = .ok (.ireturn, 1) := by decide +kernel
theorem own_ef4 (m : MethodId) (x0 : Int32) : entryFrame m #[(.int x0)] 2 = mkF m 0 #[.val (.int x0), .unset] [] := by first | (simp [entryFrame, mkF, argsToLocals, Value.category]; done) | rfl
theorem own_pn0 : plainName "java/lang/Integer" = true := by first | (simp [plainName, overriddenIn]; done) | decide +kernel
set_option maxRecDepth 65536 in
set_option maxHeartbeats 40000000 in
theorem own_nlz32p (l : Launch) (Z : State) (a0 : Array Value) (hw : ∀ d ∈ tables_1, d.before a0 Z = true) (ws : List Jvm.Cond) (p1 : Int32) (h0 : Heap) (n0 : Nat) (O0 : Old Z n0 h0) (hpos : (0 : Int32) < p1) :
    MetFree l (⟨"java/lang/Integer", "numberOfLeadingZeros", "(I)I"⟩ : MethodName) (head1 (Jvm.Cond.code (⟨"java/lang/Integer", "numberOfLeadingZeros", "(I)I"⟩ : MethodName) jdk_33_method_47_code 2 (some .int) :: ws) ({ frames := 0, cells := 0, slots := 0, locals := 0 } : Room)) (fun aa_ U_ => aa_ = #[(.int p1)] ∧ Z.Warmed39 U_.vm ∧ U_.heap = h0) (fun _ _ _ _ _ => True) (fun _ U_ oo_ UU_ => ∃ vv_ LL_, oo_ = .returned vv_ ∧ own_Q32 p1 h0 vv_ UU_.heap LL_ ∧ FrameEnd U_ oo_ UU_ LL_ ({ frames := 0, cells := 0, slots := 0, locals := 0 } : Room).cells ({ frames := 0, cells := 0, slots := 0, locals := 0 } : Room).slots) := by
  refine MetFree.of_bodySF (plainFor_of_name own_pn0) hisR ?_
  intro p e s m args below meth c s₁ Bd hml0 hP hK
  obtain ⟨rfl, hZ, hh⟩ := hP
  have hx := Bd.exec
  have hby := Bd.bytes
  have hml : c.maxLocals = 2 := hml0
  have hown : s.vm.findClass "java/lang/Integer" = some m.cls := findClass_of_methodNamed Bd.named
  have hnm := (name_of_methodNamed Bd.named Bd.method).1
  have X0 : Stand p l e ({ frames := 0, cells := 0, slots := 0, locals := 0 } : Room) s m #[(.int p1)] below meth c s₁ [] 0 0 := Stand.of_body Bd
  have e0 : s₁.heap = h0 := by rw [← hh, Bd.state]; rfl
  have N0 := Fr.nil n0
  have pre0 : ∀ t, Steps p.tables e below (s₁.setTop (mkF m 0 #[.val (.int p1), .unset] [])) t → Steps p.tables e below (s₁.setTop (entryFrame m #[(.int p1)] 2)) t := fun t k => castTop (own_ef4 m p1) k
  obtain ⟨T1, i1, m1, hv1, ⟨X1, e1⟩, st1⟩ : ∃ (T' : State) (i1 : Int32) (m1 : Int32), ((p1 < (65536 : Int32) ∧ i1 = p1 ∧ m1 = (31 : Int32)) ∨ (¬ (p1 < (65536 : Int32)) ∧ i1 = ((p1.toUInt32 >>> ((16 : Int32) &&& 31).toUInt32).toInt32) ∧ m1 = ((31 : Int32) + (-16 : Int32)))) ∧ own_Go X0 h0 T' ∧ ∀ target, Steps p.tables e below (T'.setTop (mkF m 33 #[.val (.int i1), .val (.int m1)] [])) target → Steps p.tables e below (s₁.setTop (mkF m 22 #[.val (.int p1), .val (.int (31 : Int32))] [(.int (65536 : Int32)), (.int p1)])) target := by
    by_cases hf1 : p1 < (65536 : Int32)
    · refine ⟨s₁, p1, (31 : Int32), Or.inl ⟨hf1, rfl, rfl⟩, ⟨X0, e0⟩, fun target kt => ?_⟩
      show Steps p.tables e below (s₁.setTop (mkF m 22 #[.val (.int p1), .val (.int (31 : Int32))] [(.int (65536 : Int32)), (.int p1)])) _
      refine XS.icmpYes X0.here hx rfl (pc0 := 22) (pc' := 33) rfl (hb hby own_d4_22) rfl (tlt hf1).1 (by decide) (by decide) ?_
      show Steps p.tables e below (s₁.setTop (mkF m 33 #[.val (.int p1), .val (.int (31 : Int32))] [])) _
      exact kt
    · refine ⟨s₁, ((p1.toUInt32 >>> ((16 : Int32) &&& 31).toUInt32).toInt32), ((31 : Int32) + (-16 : Int32)), Or.inr ⟨hf1, rfl, rfl⟩, ⟨X0, e0⟩, fun target kt => ?_⟩
      show Steps p.tables e below (s₁.setTop (mkF m 22 #[.val (.int p1), .val (.int (31 : Int32))] [(.int (65536 : Int32)), (.int p1)])) _
      refine XS.icmpNo X0.here hx rfl (hb hby own_d4_22) rfl (flt hf1).1 ?_
      show Steps p.tables e below (s₁.setTop (mkF m 25 #[.val (.int p1), .val (.int (31 : Int32))] [])) _
      refine XS.iinc X0.here hx rfl (hb hby own_d4_25) rfl (l' := #[.val (.int p1), .val (.int ((31 : Int32) + (-16 : Int32)))]) rfl ?_
      show Steps p.tables e below (s₁.setTop (mkF m 28 #[.val (.int p1), .val (.int ((31 : Int32) + (-16 : Int32)))] [])) _
      refine XS.iloadN X0.here hx rfl (hb hby own_d4_28) rfl ?_
      show Steps p.tables e below (s₁.setTop (mkF m 29 #[.val (.int p1), .val (.int ((31 : Int32) + (-16 : Int32)))] [(.int p1)])) _
      refine XS.bipush X0.here hx rfl (hb hby own_d4_29) ?_
      show Steps p.tables e below (s₁.setTop (mkF m 31 #[.val (.int p1), .val (.int ((31 : Int32) + (-16 : Int32)))] [(.int (16 : Int32)), (.int p1)])) _
      refine XS.iushr X0.here hx rfl (hb hby own_d4_31) rfl ?_
      show Steps p.tables e below (s₁.setTop (mkF m 32 #[.val (.int p1), .val (.int ((31 : Int32) + (-16 : Int32)))] [(.int ((p1.toUInt32 >>> ((16 : Int32) &&& 31).toUInt32).toInt32))])) _
      refine XS.istoreN X0.here hx rfl (hb hby own_d4_32) rfl (l' := #[.val (.int ((p1.toUInt32 >>> ((16 : Int32) &&& 31).toUInt32).toInt32)), .val (.int ((31 : Int32) + (-16 : Int32)))]) rfl ?_
      show Steps p.tables e below (s₁.setTop (mkF m 33 #[.val (.int ((p1.toUInt32 >>> ((16 : Int32) &&& 31).toUInt32).toInt32)), .val (.int ((31 : Int32) + (-16 : Int32)))] [])) _
      exact kt
  obtain ⟨T2, i2, m2, hv2, ⟨X2, e2⟩, st2⟩ : ∃ (T' : State) (i2 : Int32) (m2 : Int32), ((i1 < (256 : Int32) ∧ i2 = i1 ∧ m2 = m1) ∨ (¬ (i1 < (256 : Int32)) ∧ i2 = ((i1.toUInt32 >>> ((8 : Int32) &&& 31).toUInt32).toInt32) ∧ m2 = (m1 + (-8 : Int32)))) ∧ own_Go X1 h0 T' ∧ ∀ target, Steps p.tables e below (T'.setTop (mkF m 48 #[.val (.int i2), .val (.int m2)] [])) target → Steps p.tables e below (T1.setTop (mkF m 37 #[.val (.int i1), .val (.int m1)] [(.int (256 : Int32)), (.int i1)])) target := by
    by_cases hf2 : i1 < (256 : Int32)
    · refine ⟨T1, i1, m1, Or.inl ⟨hf2, rfl, rfl⟩, ⟨X1, e1⟩, fun target kt => ?_⟩
      show Steps p.tables e below (T1.setTop (mkF m 37 #[.val (.int i1), .val (.int m1)] [(.int (256 : Int32)), (.int i1)])) _
      refine XS.icmpYes X1.here hx rfl (pc0 := 37) (pc' := 48) rfl (hb hby own_d4_37) rfl (tlt hf2).1 (by decide) (by decide) ?_
      show Steps p.tables e below (T1.setTop (mkF m 48 #[.val (.int i1), .val (.int m1)] [])) _
      exact kt
    · refine ⟨T1, ((i1.toUInt32 >>> ((8 : Int32) &&& 31).toUInt32).toInt32), (m1 + (-8 : Int32)), Or.inr ⟨hf2, rfl, rfl⟩, ⟨X1, e1⟩, fun target kt => ?_⟩
      show Steps p.tables e below (T1.setTop (mkF m 37 #[.val (.int i1), .val (.int m1)] [(.int (256 : Int32)), (.int i1)])) _
      refine XS.icmpNo X1.here hx rfl (hb hby own_d4_37) rfl (flt hf2).1 ?_
      show Steps p.tables e below (T1.setTop (mkF m 40 #[.val (.int i1), .val (.int m1)] [])) _
      refine XS.iinc X1.here hx rfl (hb hby own_d4_40) rfl (l' := #[.val (.int i1), .val (.int (m1 + (-8 : Int32)))]) rfl ?_
      show Steps p.tables e below (T1.setTop (mkF m 43 #[.val (.int i1), .val (.int (m1 + (-8 : Int32)))] [])) _
      refine XS.iloadN X1.here hx rfl (hb hby own_d4_43) rfl ?_
      show Steps p.tables e below (T1.setTop (mkF m 44 #[.val (.int i1), .val (.int (m1 + (-8 : Int32)))] [(.int i1)])) _
      refine XS.bipush X1.here hx rfl (hb hby own_d4_44) ?_
      show Steps p.tables e below (T1.setTop (mkF m 46 #[.val (.int i1), .val (.int (m1 + (-8 : Int32)))] [(.int (8 : Int32)), (.int i1)])) _
      refine XS.iushr X1.here hx rfl (hb hby own_d4_46) rfl ?_
      show Steps p.tables e below (T1.setTop (mkF m 47 #[.val (.int i1), .val (.int (m1 + (-8 : Int32)))] [(.int ((i1.toUInt32 >>> ((8 : Int32) &&& 31).toUInt32).toInt32))])) _
      refine XS.istoreN X1.here hx rfl (hb hby own_d4_47) rfl (l' := #[.val (.int ((i1.toUInt32 >>> ((8 : Int32) &&& 31).toUInt32).toInt32)), .val (.int (m1 + (-8 : Int32)))]) rfl ?_
      show Steps p.tables e below (T1.setTop (mkF m 48 #[.val (.int ((i1.toUInt32 >>> ((8 : Int32) &&& 31).toUInt32).toInt32)), .val (.int (m1 + (-8 : Int32)))] [])) _
      exact kt
  obtain ⟨T3, i3, m3, hv3, ⟨X3, e3⟩, st3⟩ : ∃ (T' : State) (i3 : Int32) (m3 : Int32), ((i2 < (16 : Int32) ∧ i3 = i2 ∧ m3 = m2) ∨ (¬ (i2 < (16 : Int32)) ∧ i3 = ((i2.toUInt32 >>> ((4 : Int32) &&& 31).toUInt32).toInt32) ∧ m3 = (m2 + (-4 : Int32)))) ∧ own_Go X2 h0 T' ∧ ∀ target, Steps p.tables e below (T'.setTop (mkF m 61 #[.val (.int i3), .val (.int m3)] [])) target → Steps p.tables e below (T2.setTop (mkF m 51 #[.val (.int i2), .val (.int m2)] [(.int (16 : Int32)), (.int i2)])) target := by
    by_cases hf3 : i2 < (16 : Int32)
    · refine ⟨T2, i2, m2, Or.inl ⟨hf3, rfl, rfl⟩, ⟨X2, e2⟩, fun target kt => ?_⟩
      show Steps p.tables e below (T2.setTop (mkF m 51 #[.val (.int i2), .val (.int m2)] [(.int (16 : Int32)), (.int i2)])) _
      refine XS.icmpYes X2.here hx rfl (pc0 := 51) (pc' := 61) rfl (hb hby own_d4_51) rfl (tlt hf3).1 (by decide) (by decide) ?_
      show Steps p.tables e below (T2.setTop (mkF m 61 #[.val (.int i2), .val (.int m2)] [])) _
      exact kt
    · refine ⟨T2, ((i2.toUInt32 >>> ((4 : Int32) &&& 31).toUInt32).toInt32), (m2 + (-4 : Int32)), Or.inr ⟨hf3, rfl, rfl⟩, ⟨X2, e2⟩, fun target kt => ?_⟩
      show Steps p.tables e below (T2.setTop (mkF m 51 #[.val (.int i2), .val (.int m2)] [(.int (16 : Int32)), (.int i2)])) _
      refine XS.icmpNo X2.here hx rfl (hb hby own_d4_51) rfl (flt hf3).1 ?_
      show Steps p.tables e below (T2.setTop (mkF m 54 #[.val (.int i2), .val (.int m2)] [])) _
      refine XS.iinc X2.here hx rfl (hb hby own_d4_54) rfl (l' := #[.val (.int i2), .val (.int (m2 + (-4 : Int32)))]) rfl ?_
      show Steps p.tables e below (T2.setTop (mkF m 57 #[.val (.int i2), .val (.int (m2 + (-4 : Int32)))] [])) _
      refine XS.iloadN X2.here hx rfl (hb hby own_d4_57) rfl ?_
      show Steps p.tables e below (T2.setTop (mkF m 58 #[.val (.int i2), .val (.int (m2 + (-4 : Int32)))] [(.int i2)])) _
      refine XS.iconst X2.here hx rfl (hb hby own_d4_58) ?_
      show Steps p.tables e below (T2.setTop (mkF m 59 #[.val (.int i2), .val (.int (m2 + (-4 : Int32)))] [(.int (4 : Int32)), (.int i2)])) _
      refine XS.iushr X2.here hx rfl (hb hby own_d4_59) rfl ?_
      show Steps p.tables e below (T2.setTop (mkF m 60 #[.val (.int i2), .val (.int (m2 + (-4 : Int32)))] [(.int ((i2.toUInt32 >>> ((4 : Int32) &&& 31).toUInt32).toInt32))])) _
      refine XS.istoreN X2.here hx rfl (hb hby own_d4_60) rfl (l' := #[.val (.int ((i2.toUInt32 >>> ((4 : Int32) &&& 31).toUInt32).toInt32)), .val (.int (m2 + (-4 : Int32)))]) rfl ?_
      show Steps p.tables e below (T2.setTop (mkF m 61 #[.val (.int ((i2.toUInt32 >>> ((4 : Int32) &&& 31).toUInt32).toInt32)), .val (.int (m2 + (-4 : Int32)))] [])) _
      exact kt
  obtain ⟨T4, i4, m4, hv4, ⟨X4, e4⟩, st4⟩ : ∃ (T' : State) (i4 : Int32) (m4 : Int32), ((i3 < (4 : Int32) ∧ i4 = i3 ∧ m4 = m3) ∨ (¬ (i3 < (4 : Int32)) ∧ i4 = ((i3.toUInt32 >>> ((2 : Int32) &&& 31).toUInt32).toInt32) ∧ m4 = (m3 + (-2 : Int32)))) ∧ own_Go X3 h0 T' ∧ ∀ target, Steps p.tables e below (T'.setTop (mkF m 73 #[.val (.int i4), .val (.int m4)] [])) target → Steps p.tables e below (T3.setTop (mkF m 63 #[.val (.int i3), .val (.int m3)] [(.int (4 : Int32)), (.int i3)])) target := by
    by_cases hf4 : i3 < (4 : Int32)
    · refine ⟨T3, i3, m3, Or.inl ⟨hf4, rfl, rfl⟩, ⟨X3, e3⟩, fun target kt => ?_⟩
      show Steps p.tables e below (T3.setTop (mkF m 63 #[.val (.int i3), .val (.int m3)] [(.int (4 : Int32)), (.int i3)])) _
      refine XS.icmpYes X3.here hx rfl (pc0 := 63) (pc' := 73) rfl (hb hby own_d4_63) rfl (tlt hf4).1 (by decide) (by decide) ?_
      show Steps p.tables e below (T3.setTop (mkF m 73 #[.val (.int i3), .val (.int m3)] [])) _
      exact kt
    · refine ⟨T3, ((i3.toUInt32 >>> ((2 : Int32) &&& 31).toUInt32).toInt32), (m3 + (-2 : Int32)), Or.inr ⟨hf4, rfl, rfl⟩, ⟨X3, e3⟩, fun target kt => ?_⟩
      show Steps p.tables e below (T3.setTop (mkF m 63 #[.val (.int i3), .val (.int m3)] [(.int (4 : Int32)), (.int i3)])) _
      refine XS.icmpNo X3.here hx rfl (hb hby own_d4_63) rfl (flt hf4).1 ?_
      show Steps p.tables e below (T3.setTop (mkF m 66 #[.val (.int i3), .val (.int m3)] [])) _
      refine XS.iinc X3.here hx rfl (hb hby own_d4_66) rfl (l' := #[.val (.int i3), .val (.int (m3 + (-2 : Int32)))]) rfl ?_
      show Steps p.tables e below (T3.setTop (mkF m 69 #[.val (.int i3), .val (.int (m3 + (-2 : Int32)))] [])) _
      refine XS.iloadN X3.here hx rfl (hb hby own_d4_69) rfl ?_
      show Steps p.tables e below (T3.setTop (mkF m 70 #[.val (.int i3), .val (.int (m3 + (-2 : Int32)))] [(.int i3)])) _
      refine XS.iconst X3.here hx rfl (hb hby own_d4_70) ?_
      show Steps p.tables e below (T3.setTop (mkF m 71 #[.val (.int i3), .val (.int (m3 + (-2 : Int32)))] [(.int (2 : Int32)), (.int i3)])) _
      refine XS.iushr X3.here hx rfl (hb hby own_d4_71) rfl ?_
      show Steps p.tables e below (T3.setTop (mkF m 72 #[.val (.int i3), .val (.int (m3 + (-2 : Int32)))] [(.int ((i3.toUInt32 >>> ((2 : Int32) &&& 31).toUInt32).toInt32))])) _
      refine XS.istoreN X3.here hx rfl (hb hby own_d4_72) rfl (l' := #[.val (.int ((i3.toUInt32 >>> ((2 : Int32) &&& 31).toUInt32).toInt32)), .val (.int (m3 + (-2 : Int32)))]) rfl ?_
      show Steps p.tables e below (T3.setTop (mkF m 73 #[.val (.int ((i3.toUInt32 >>> ((2 : Int32) &&& 31).toUInt32).toInt32)), .val (.int (m3 + (-2 : Int32)))] [])) _
      exact kt
  obtain ⟨fs, hr, hrun, hended, hW, hsame⟩ := X4.leave (v := some (.int (m4 - ((i4.toUInt32 >>> ((1 : Int32) &&& 31).toUInt32).toInt32)))) (fun h => by rw [Bd.returns] at h; cases h)
  refine ⟨_, _, pre0 _ ?_, hrun, hended, _, _, rfl, ?_, ⟨_, rfl⟩, hW, hsame.mono (by decide) (by decide)⟩
  · show Steps p.tables e below (s₁.setTop (mkF m 0 #[.val (.int p1), .unset] [])) _
    refine XS.iloadN X0.here hx rfl (hb hby own_d4_0) rfl ?_
    show Steps p.tables e below (s₁.setTop (mkF m 1 #[.val (.int p1), .unset] [(.int p1)])) _
    refine XS.ifYes X0.here hx rfl (pc0 := 1) (pc' := 15) rfl (hb hby own_d4_1) rfl ((if0 _ _).trans (tlt hpos).2.2.1) (by decide) (by decide) ?_
    show Steps p.tables e below (s₁.setTop (mkF m 15 #[.val (.int p1), .unset] [])) _
    refine XS.bipush X0.here hx rfl (hb hby own_d4_15) ?_
    show Steps p.tables e below (s₁.setTop (mkF m 17 #[.val (.int p1), .unset] [(.int (31 : Int32))])) _
    refine XS.istoreN X0.here hx rfl (hb hby own_d4_17) rfl (l' := #[.val (.int p1), .val (.int (31 : Int32))]) rfl ?_
    show Steps p.tables e below (s₁.setTop (mkF m 18 #[.val (.int p1), .val (.int (31 : Int32))] [])) _
    refine XS.iloadN X0.here hx rfl (hb hby own_d4_18) rfl ?_
    show Steps p.tables e below (s₁.setTop (mkF m 19 #[.val (.int p1), .val (.int (31 : Int32))] [(.int p1)])) _
    refine X0.ldcwInt hx hown (mvT hZ (hw _ (List.mem_of_getElem? (i := 37) rfl))) (g := (mkF m 19 #[.val (.int p1), .val (.int (31 : Int32))] [(.int p1)])) rfl (hb hby own_d4_19) _ ?_
    refine st1 _ ?_
    show Steps p.tables e below (T1.setTop (mkF m 33 #[.val (.int i1), .val (.int m1)] [])) _
    refine XS.iloadN X1.here hx rfl (hb hby own_d4_33) rfl ?_
    show Steps p.tables e below (T1.setTop (mkF m 34 #[.val (.int i1), .val (.int m1)] [(.int i1)])) _
    refine XS.sipush X1.here hx rfl (hb hby own_d4_34) ?_
    refine st2 _ ?_
    show Steps p.tables e below (T2.setTop (mkF m 48 #[.val (.int i2), .val (.int m2)] [])) _
    refine XS.iloadN X2.here hx rfl (hb hby own_d4_48) rfl ?_
    show Steps p.tables e below (T2.setTop (mkF m 49 #[.val (.int i2), .val (.int m2)] [(.int i2)])) _
    refine XS.bipush X2.here hx rfl (hb hby own_d4_49) ?_
    refine st3 _ ?_
    show Steps p.tables e below (T3.setTop (mkF m 61 #[.val (.int i3), .val (.int m3)] [])) _
    refine XS.iloadN X3.here hx rfl (hb hby own_d4_61) rfl ?_
    show Steps p.tables e below (T3.setTop (mkF m 62 #[.val (.int i3), .val (.int m3)] [(.int i3)])) _
    refine XS.iconst X3.here hx rfl (hb hby own_d4_62) ?_
    refine st4 _ ?_
    show Steps p.tables e below (T4.setTop (mkF m 73 #[.val (.int i4), .val (.int m4)] [])) _
    refine XS.iloadN X4.here hx rfl (hb hby own_d4_73) rfl ?_
    show Steps p.tables e below (T4.setTop (mkF m 74 #[.val (.int i4), .val (.int m4)] [(.int m4)])) _
    refine XS.iloadN X4.here hx rfl (hb hby own_d4_74) rfl ?_
    show Steps p.tables e below (T4.setTop (mkF m 75 #[.val (.int i4), .val (.int m4)] [(.int i4), (.int m4)])) _
    refine XS.iconst X4.here hx rfl (hb hby own_d4_75) ?_
    show Steps p.tables e below (T4.setTop (mkF m 76 #[.val (.int i4), .val (.int m4)] [(.int (1 : Int32)), (.int i4), (.int m4)])) _
    refine XS.iushr X4.here hx rfl (hb hby own_d4_76) rfl ?_
    show Steps p.tables e below (T4.setTop (mkF m 77 #[.val (.int i4), .val (.int m4)] [(.int ((i4.toUInt32 >>> ((1 : Int32) &&& 31).toUInt32).toInt32)), (.int m4)])) _
    refine XS.isub X4.here hx rfl (hb hby own_d4_77) rfl ?_
    show Steps p.tables e below (T4.setTop (mkF m 78 #[.val (.int i4), .val (.int m4)] [(.int (m4 - ((i4.toUInt32 >>> ((1 : Int32) &&& 31).toUInt32).toInt32)))])) _
    exact retI X4 hx Bd.returns (hb hby own_d4_78) hr
  · show own_Q32 p1 h0 _ T4.heap _
    rw [e4]
    obtain ⟨j0, a0_, b0_, c0_⟩ := own_exj p1 hpos
    have e31 : (31 : Int32).toInt = 31 := by decide
    obtain ⟨j1, a1, b1, c1, d1, f1, g1⟩ := own_nst 16 (by decide) (by decide) (by decide) (by decide) (by decide) b0_ c0_ (by omega) (by omega) (by omega) hv1
    obtain ⟨j2, a2, b2, c2, d2, f2, g2⟩ := own_nst 8 (by decide) (by decide) (by decide) (by decide) (by decide) b1 c1 (by omega) f1 g1 hv2
    obtain ⟨j3, a3, b3, c3, d3, f3, g3⟩ := own_nst 4 (by decide) (by decide) (by decide) (by decide) (by decide) b2 c2 (by omega) f2 g2 hv3
    obtain ⟨j4, a4, b4, c4, d4, f4, g4⟩ := own_nst 2 (by decide) (by decide) (by decide) (by decide) (by decide) b3 c3 (by omega) f3 g3 hv4
    have hr := rng32 p1
    have hm : p1.toInt % 4294967296 = p1.toInt := by have := Nat.zero_le (2 ^ j0); omega
    refine ⟨_, rfl, rfl, rfl, j0, by omega, by rw [hm]; exact b0_, by rw [hm]; exact c0_, ?_⟩
    have h5 := c_iushr i4 (1 : Int32) 1 (by decide) (by decide)
    have h6 := c_isub m4 ((i4.toUInt32 >>> ((1 : Int32) &&& 31).toUInt32).toInt32)
    have h7 := rng32 (m4 - ((i4.toUInt32 >>> ((1 : Int32) &&& 31).toUInt32).toInt32))
    have hj : j4 = 0 ∨ j4 = 1 := by omega
    rcases hj with rfl | rfl
    · simp only [Nat.pow_zero, Nat.zero_add, Nat.pow_one] at b4 c4 h5; omega
    · simp only [Nat.pow_one, show 1 + 1 = 2 from rfl, show 2 ^ 2 = 4 from rfl] at b4 c4 h5; omega
theorem own_d4_4 : decode jdk_33_method_47_code 4 = .ok (.iload_n 0, 1) := by decide +kernel
theorem own_d4_5 : decode jdk_33_method_47_code 5 = .ok (.ifCond .ne 8, 3) := by decide +kernel
theorem own_d4_13 : decode jdk_33_method_47_code 13 = .ok (.iconst 0, 1) := by decide +kernel
theorem own_d4_14 : decode jdk_33_method_47_code 14 = .ok (.ireturn, 1) := by decide +kernel
set_option maxRecDepth 65536 in
set_option maxHeartbeats 40000000 in
theorem own_nlz32n (l : Launch) (Z : State) (a0 : Array Value) (hw : ∀ d ∈ tables_1, d.before a0 Z = true) (ws : List Jvm.Cond) (p1 : Int32) (h0 : Heap) (n0 : Nat) (O0 : Old Z n0 h0) (hpos : ¬ ((0 : Int32) < p1)) (hnz : ¬ (p1 = (0 : Int32))) :
    MetFree l (⟨"java/lang/Integer", "numberOfLeadingZeros", "(I)I"⟩ : MethodName) (head1 (Jvm.Cond.code (⟨"java/lang/Integer", "numberOfLeadingZeros", "(I)I"⟩ : MethodName) jdk_33_method_47_code 2 (some .int) :: ws) ({ frames := 0, cells := 0, slots := 0, locals := 0 } : Room)) (fun aa_ U_ => aa_ = #[(.int p1)] ∧ Z.Warmed39 U_.vm ∧ U_.heap = h0) (fun _ _ _ _ _ => True) (fun _ U_ oo_ UU_ => ∃ vv_ LL_, oo_ = .returned vv_ ∧ own_Q32 p1 h0 vv_ UU_.heap LL_ ∧ FrameEnd U_ oo_ UU_ LL_ ({ frames := 0, cells := 0, slots := 0, locals := 0 } : Room).cells ({ frames := 0, cells := 0, slots := 0, locals := 0 } : Room).slots) := by
  refine MetFree.of_bodySF (plainFor_of_name own_pn0) hisR ?_
  intro p e s m args below meth c s₁ Bd hml0 hP hK
  obtain ⟨rfl, hZ, hh⟩ := hP
  have hx := Bd.exec
  have hby := Bd.bytes
  have hml : c.maxLocals = 2 := hml0
  have hown : s.vm.findClass "java/lang/Integer" = some m.cls := findClass_of_methodNamed Bd.named
  have hnm := (name_of_methodNamed Bd.named Bd.method).1
  have X0 : Stand p l e ({ frames := 0, cells := 0, slots := 0, locals := 0 } : Room) s m #[(.int p1)] below meth c s₁ [] 0 0 := Stand.of_body Bd
  have e0 : s₁.heap = h0 := by rw [← hh, Bd.state]; rfl
  have N0 := Fr.nil n0
  have pre0 : ∀ t, Steps p.tables e below (s₁.setTop (mkF m 0 #[.val (.int p1), .unset] [])) t → Steps p.tables e below (s₁.setTop (entryFrame m #[(.int p1)] 2)) t := fun t k => castTop (own_ef4 m p1) k
  obtain ⟨fs, hr, hrun, hended, hW, hsame⟩ := X0.leave (v := some (.int (0 : Int32))) (fun h => by rw [Bd.returns] at h; cases h)
  refine ⟨_, _, pre0 _ ?_, hrun, hended, _, _, rfl, ?_, ⟨_, rfl⟩, hW, hsame.mono (by decide) (by decide)⟩
  · show Steps p.tables e below (s₁.setTop (mkF m 0 #[.val (.int p1), .unset] [])) _
    refine XS.iloadN X0.here hx rfl (hb hby own_d4_0) rfl ?_
    show Steps p.tables e below (s₁.setTop (mkF m 1 #[.val (.int p1), .unset] [(.int p1)])) _
    refine XS.ifNo X0.here hx rfl (hb hby own_d4_1) rfl ((if0 _ _).trans (flt hpos).2.2.1) ?_
    show Steps p.tables e below (s₁.setTop (mkF m 4 #[.val (.int p1), .unset] [])) _
    refine XS.iloadN X0.here hx rfl (hb hby own_d4_4) rfl ?_
    show Steps p.tables e below (s₁.setTop (mkF m 5 #[.val (.int p1), .unset] [(.int p1)])) _
    refine XS.ifYes X0.here hx rfl (pc0 := 5) (pc' := 13) rfl (hb hby own_d4_5) rfl ((if0 _ _).trans (feq hnz).2) (by decide) (by decide) ?_
    show Steps p.tables e below (s₁.setTop (mkF m 13 #[.val (.int p1), .unset] [])) _
    refine XS.iconst X0.here hx rfl (hb hby own_d4_13) ?_
    show Steps p.tables e below (s₁.setTop (mkF m 14 #[.val (.int p1), .unset] [(.int (0 : Int32))])) _
    exact retI X0 hx Bd.returns (hb hby own_d4_14) hr
  · show own_Q32 p1 h0 _ s₁.heap _
    rw [e0]
    have hr := rng32 p1
    rw [Int32.lt_iff_toInt_lt] at hpos
    have e0' : (0 : Int32).toInt = 0 := by decide
    have hn : p1.toInt ≠ 0 := fun q => hnz (own_i32 (by rw [q, e0']))
    refine ⟨_, rfl, rfl, rfl, 31, by decide, ?_, ?_, by decide⟩ <;> simp only [show (2 ^ 31 : Nat) = 2147483648 from by decide, show (2 ^ (31 + 1) : Nat) = 4294967296 from by decide] <;> omega
theorem own_nlz32 (l : Launch) (Z : State) (a0 : Array Value) (hw : ∀ d ∈ tables_1, d.before a0 Z = true) (ws : List Jvm.Cond) (p1 : Int32) (h0 : Heap) (n0 : Nat) (O0 : Old Z n0 h0) (hnz : ¬ (p1 = (0 : Int32))) :
    MetFree l (⟨"java/lang/Integer", "numberOfLeadingZeros", "(I)I"⟩ : MethodName) (head1 (Jvm.Cond.code (⟨"java/lang/Integer", "numberOfLeadingZeros", "(I)I"⟩ : MethodName) jdk_33_method_47_code 2 (some .int) :: ws) ({ frames := 0, cells := 0, slots := 0, locals := 0 } : Room)) (fun a U => a = #[(.int p1)] ∧ Z.Warmed39 U.vm ∧ U.heap = h0) (fun _ _ _ _ _ => True) (fun _ U o U' => ∃ v L, o = .returned v ∧ own_Q32 p1 h0 v U'.heap L ∧ FrameEnd U o U' L ({ frames := 0, cells := 0, slots := 0, locals := 0 } : Room).cells ({ frames := 0, cells := 0, slots := 0, locals := 0 } : Room).slots) := by
  by_cases hpos : (0 : Int32) < p1
  · exact own_nlz32p l Z a0 hw ws p1 h0 n0 O0 hpos
  · exact own_nlz32n l Z a0 hw ws p1 h0 n0 O0 hpos hnz
def own_B64 (v : Int64) (z : Int32) : Prop := ∃ j : Nat, j < 63 ∧ ((2 ^ j : Nat) : Int) ≤ v.toInt ∧ v.toInt < ((2 ^ (j + 1) : Nat) : Int) ∧ z.toInt = 63 - j
def own_Q64 (q : Int64) (h0 : Heap) (v : Option Value) (h : Heap) (L : List Loc) : Prop := ∃ z : Int32, v = some (.int z) ∧ L = [] ∧ h = h0 ∧ own_B64 q z
theorem own_hi (v : Int64) (h : (0 : Int64) < v) : 0 < v.toInt ∧ (((v.toUInt64 >>> ((32 : Int32) &&& 0x3f).toInt64.toUInt64).toInt64).toInt32).toInt = v.toInt / 4294967296 := by
  have h0 : 0 < v.toInt := by rw [Int64.lt_iff_toInt_lt] at h; exact h
  refine ⟨h0, ?_⟩
  have h1 := c_lushr v (32 : Int32) 32 (by decide) (by decide)
  have h2 := c_l2i ((v.toUInt64 >>> ((32 : Int32) &&& 0x3f).toInt64.toUInt64).toInt64)
  have h3 := rng32 (((v.toUInt64 >>> ((32 : Int32) &&& 0x3f).toInt64.toUInt64).toInt64).toInt32)
  have h4 := rng64 v
  have h5 : v.toInt % 18446744073709551616 = v.toInt := by omega
  rw [h5] at h1
  have h6 : ((2 ^ 32 : Nat) : Int) = 4294967296 := by decide
  rw [h6] at h1
  rw [h1] at h2
  omega
theorem own_b64lo {v : Int64} {hh z : Int32} (h : (0 : Int64) < v) (eh : hh.toInt = v.toInt / 4294967296) (hz : hh = (0 : Int32)) (B : own_B32 (v.toInt32) z) : own_B64 v ((32 : Int32) + z) := by
  obtain ⟨j, a, b, c, d⟩ := B
  have h0 : 0 < v.toInt := by rw [Int64.lt_iff_toInt_lt] at h; exact h
  have e0 : (0 : Int32).toInt = 0 := by decide
  have e32 : (32 : Int32).toInt = 32 := by decide
  rw [hz, e0] at eh
  have h2 := c_l2i v
  have h8 := c_iadd (32 : Int32) z
  have h9 := rng32 ((32 : Int32) + z)
  have h10 := rng32 v.toInt32
  have h11 : v.toInt32.toInt % 4294967296 = v.toInt := by omega
  rw [h11] at b c
  exact ⟨j, by omega, b, c, by omega⟩
theorem own_lonz {v : Int64} {hh : Int32} (h : (0 : Int64) < v) (eh : hh.toInt = v.toInt / 4294967296) (hz : hh = (0 : Int32)) : ¬ (v.toInt32 = (0 : Int32)) := fun q => by
  have h0 : 0 < v.toInt := by rw [Int64.lt_iff_toInt_lt] at h; exact h
  have e0 : (0 : Int32).toInt = 0 := by decide
  have h2 := c_l2i v
  rw [q, e0] at h2
  rw [hz, e0] at eh
  omega
theorem own_b64hi {v : Int64} {hh z : Int32} (h : (0 : Int64) < v) (eh : hh.toInt = v.toInt / 4294967296) (B : own_B32 hh z) : own_B64 v z := by
  obtain ⟨j, a, b, c, d⟩ := B
  have h0 : 0 < v.toInt := by rw [Int64.lt_iff_toInt_lt] at h; exact h
  have h4 := rng64 v
  have h10 : hh.toInt % 4294967296 = v.toInt / 4294967296 := by omega
  rw [h10] at b c
  have e1 : (2 ^ (j + 32) : Nat) = 2 ^ j * 4294967296 := by rw [Nat.pow_add]
  have e2 : (2 ^ (j + 32 + 1) : Nat) = 2 ^ (j + 1) * 4294967296 := by rw [show j + 32 + 1 = (j + 1) + 32 from by omega, Nat.pow_add]
  have hj : j < 31 := by
    have h12 : (2 ^ j : Nat) < 2 ^ 31 := by omega
    exact (Nat.pow_lt_pow_iff_right (by decide)).mp h12
  exact ⟨j + 32, by omega, by rw [e1]; omega, by rw [e2]; omega, by omega⟩
theorem own_d3_0 : decode jdk_35_method_48_code 0 = .ok (.lload_n 0, 1) := by decide +kernel
theorem own_d3_1 : decode jdk_35_method_48_code 1 = .ok (.bipush 32, 2) := by decide +kernel
theorem own_d3_3 : decode jdk_35_method_48_code 3 = .ok (.lushr, 1) := by decide +kernel
theorem own_d3_4 : decode jdk_35_method_48_code 4 = .ok (.l2i, 1) := by decide +kernel
theorem own_d3_5 : decode jdk_35_method_48_code 5 = .ok (.istore_n 2, 1) := by decide +kernel
theorem own_d3_6 : decode jdk_35_method_48_code 6 = .ok (.iload_n 2, 1) := by decide +kernel
theorem own_d3_7 : decode jdk_35_method_48_code 7 = .ok (.ifCond .ne 14, 3) := by decide +kernel
theorem own_d3_10 : decode jdk_35_method_48_code 10 = .ok (.bipush 32, 2) := by decide +kernel
theorem own_d3_12 : decode jdk_35_method_48_code 12 = .ok (.lload_n 0, 1) := by decide +kernel
theorem own_d3_13 : decode jdk_35_method_48_code 13 = .ok (.l2i, 1) := by decide +kernel
theorem own_d3_14 : decode jdk_35_method_48_code 14 = .ok (.invokestatic 308, 3) := by decide +kernel
theorem own_pd0 : parseMethodDescriptor "(I)I" = some ⟨[.int], some .int⟩ := by decide +kernel
theorem own_d3_17 : decode jdk_35_method_48_code 17 = .ok (.iadd, 1) := by decide +kernel
theorem own_d3_18 : decode jdk_35_method_48_code 18 = .ok (.goto 7, 3) := by decide +kernel
theorem own_d3_25 : decode jdk_35_method_48_code 25 = .ok (.ireturn, 1) := by decide +kernel
theorem own_ef3 (m : MethodId) (x0 : Int64) : entryFrame m #[(.long x0)] 3 = mkF m 0 #[.val (.long x0), .second, .unset] [] := by first | (simp [entryFrame, mkF, argsToLocals, Value.category]; done) | rfl
theorem own_pn1 : plainName "java/lang/Long" = true := by first | (simp [plainName, overriddenIn]; done) | decide +kernel
set_option maxRecDepth 65536 in
set_option maxHeartbeats 40000000 in
theorem own_nlz64f (l : Launch) (Z : State) (a0 : Array Value) (hw : ∀ d ∈ tables_1, d.before a0 Z = true) (ws : List Jvm.Cond) (q1 : Int64) (h0 : Heap) (n0 : Nat) (O0 : Old Z n0 h0) (hv : (0 : Int64) < q1) (hz : (((q1.toUInt64 >>> ((32 : Int32) &&& 0x3f).toInt64.toUInt64).toInt64).toInt32) = (0 : Int32)) :
    MetFree l (⟨"java/lang/Long", "numberOfLeadingZeros", "(J)I"⟩ : MethodName) (head1 (Jvm.Cond.code (⟨"java/lang/Long", "numberOfLeadingZeros", "(J)I"⟩ : MethodName) jdk_35_method_48_code 3 (some .int) :: ws) ({ frames := 1, cells := 0, slots := 0, locals := 14 } : Room)) (fun aa_ U_ => aa_ = #[(.long q1)] ∧ Z.Warmed39 U_.vm ∧ U_.heap = h0) (fun _ _ _ _ _ => True) (fun _ U_ oo_ UU_ => ∃ vv_ LL_, oo_ = .returned vv_ ∧ own_Q64 q1 h0 vv_ UU_.heap LL_ ∧ FrameEnd U_ oo_ UU_ LL_ ({ frames := 1, cells := 0, slots := 0, locals := 14 } : Room).cells ({ frames := 1, cells := 0, slots := 0, locals := 14 } : Room).slots) := by
  refine MetFree.of_bodySF (plainFor_of_name own_pn1) hisR ?_
  intro p e s m args below meth c s₁ Bd hml0 hP hK
  obtain ⟨rfl, hZ, hh⟩ := hP
  have hx := Bd.exec
  have hby := Bd.bytes
  have hml : c.maxLocals = 3 := hml0
  have hown : s.vm.findClass "java/lang/Long" = some m.cls := findClass_of_methodNamed Bd.named
  have hnm := (name_of_methodNamed Bd.named Bd.method).1
  have X0 : Stand p l e ({ frames := 1, cells := 0, slots := 0, locals := 14 } : Room) s m #[(.long q1)] below meth c s₁ [] 0 0 := Stand.of_body Bd
  have e0 : s₁.heap = h0 := by rw [← hh, Bd.state]; rfl
  have N0 := Fr.nil n0
  have pre0 : ∀ t, Steps p.tables e below (s₁.setTop (mkF m 0 #[.val (.long q1), .second, .unset] [])) t → Steps p.tables e below (s₁.setTop (entryFrame m #[(.long q1)] 3)) t := fun t k => castTop (own_ef3 m q1) k
  obtain ⟨hh, h_hh⟩ : ∃ z : Int32, z = (((q1.toUInt64 >>> ((32 : Int32) &&& 0x3f).toInt64.toUInt64).toInt64).toInt32) := ⟨_, rfl⟩
  have hz' : hh = (0 : Int32) := by rw [h_hh]; exact hz
  obtain ⟨_, _, ⟨T1, L1, k1, n1⟩, -, X1, ⟨Lc1, hQ1, l1, y1, z1⟩, st1⟩ := Jvm.LawKit.callS X0 hx (y := (⟨"java/lang/Integer", "numberOfLeadingZeros", "(I)I"⟩ : MethodName)) hown (mvT hZ (hw _ (List.mem_of_getElem? (i := 33) rfl))) (mvT hZ (hw _ (List.mem_of_getElem? (i := 34) rfl))) (mvT hZ (hw _ (List.mem_of_getElem? (i := 35) rfl))) (mvT hZ (hw _ (List.mem_of_getElem? (i := 36) rfl))) (by decide) (backOf (W := 1) (own_nlz32 l Z a0 hw [] (q1.toInt32) h0 n0 O0 (own_lonz hv (h_hh ▸ (own_hi q1 hv).2) hz')) hZ (hw _ (List.mem_of_getElem? (i := 36) rfl)) (hw _ (List.mem_of_getElem? (i := 35) rfl)) (by decide) (by decide)) (g := (mkF m 14 #[.val (.long q1), .second, .val (.int hh)] [(.int (q1.toInt32)), (.int (32 : Int32))])) rfl (by rw [hml]; rfl) (argsL := [(.int (q1.toInt32))]) (rest := [(.int (32 : Int32))]) (lenOf own_pd0 rfl) rfl (by show 2 * 0 + _ ≤ _; exact Nat.le_of_eq rfl) (hb hby own_d3_14) (fun _ _ => ⟨rfl, e0, (by decide : 0 + 0 ≤ _), (by decide : 0 + 0 ≤ _)⟩)
  dsimp only [Pt.U, Pt.locs, Pt.cells, Pt.slots] at X1 l1 y1 z1 st1 hQ1
  subst l1 y1 z1
  obtain ⟨z1, rfl, rfl, e1, hz1⟩ := hQ1
  try rw [List.append_nil] at X1
  obtain ⟨fs, hr, hrun, hended, hW, hsame⟩ := X1.leave (v := some (.int ((32 : Int32) + z1))) (fun h => by rw [Bd.returns] at h; cases h)
  refine ⟨_, _, pre0 _ ?_, hrun, hended, _, _, rfl, ?_, ⟨_, rfl⟩, hW, hsame.mono (by decide) (by decide)⟩
  · show Steps p.tables e below (s₁.setTop (mkF m 0 #[.val (.long q1), .second, .unset] [])) _
    refine XS.lloadN X0.here hx rfl (hb hby own_d3_0) rfl ?_
    show Steps p.tables e below (s₁.setTop (mkF m 1 #[.val (.long q1), .second, .unset] [(.long q1)])) _
    refine XS.bipush X0.here hx rfl (hb hby own_d3_1) ?_
    show Steps p.tables e below (s₁.setTop (mkF m 3 #[.val (.long q1), .second, .unset] [(.int (32 : Int32)), (.long q1)])) _
    refine XS.lushr X0.here hx rfl (hb hby own_d3_3) rfl ?_
    show Steps p.tables e below (s₁.setTop (mkF m 4 #[.val (.long q1), .second, .unset] [(.long ((q1.toUInt64 >>> ((32 : Int32) &&& 0x3f).toInt64.toUInt64).toInt64))])) _
    refine XS.l2i X0.here hx rfl (hb hby own_d3_4) rfl ?_
    show Steps p.tables e below (s₁.setTop (mkF m 5 #[.val (.long q1), .second, .unset] [(.int (((q1.toUInt64 >>> ((32 : Int32) &&& 0x3f).toInt64.toUInt64).toInt64).toInt32))])) _
    refine XS.istoreN X0.here hx rfl (hb hby own_d3_5) rfl (l' := #[.val (.long q1), .second, .val (.int (((q1.toUInt64 >>> ((32 : Int32) &&& 0x3f).toInt64.toUInt64).toInt64).toInt32))]) rfl ?_
    show Steps p.tables e below (s₁.setTop (mkF m 6 #[.val (.long q1), .second, .val (.int (((q1.toUInt64 >>> ((32 : Int32) &&& 0x3f).toInt64.toUInt64).toInt64).toInt32))] [])) _
    rw [← h_hh]
    show Steps p.tables e below (s₁.setTop (mkF m 6 #[.val (.long q1), .second, .val (.int hh)] [])) _
    refine XS.iloadN X0.here hx rfl (hb hby own_d3_6) rfl ?_
    show Steps p.tables e below (s₁.setTop (mkF m 7 #[.val (.long q1), .second, .val (.int hh)] [(.int hh)])) _
    refine XS.ifNo X0.here hx rfl (hb hby own_d3_7) rfl ((if0 _ _).trans (teq hz').2) ?_
    show Steps p.tables e below (s₁.setTop (mkF m 10 #[.val (.long q1), .second, .val (.int hh)] [])) _
    refine XS.bipush X0.here hx rfl (hb hby own_d3_10) ?_
    show Steps p.tables e below (s₁.setTop (mkF m 12 #[.val (.long q1), .second, .val (.int hh)] [(.int (32 : Int32))])) _
    refine XS.lloadN X0.here hx rfl (hb hby own_d3_12) rfl ?_
    show Steps p.tables e below (s₁.setTop (mkF m 13 #[.val (.long q1), .second, .val (.int hh)] [(.long q1), (.int (32 : Int32))])) _
    refine XS.l2i X0.here hx rfl (hb hby own_d3_13) rfl ?_
    show Steps p.tables e below (s₁.setTop (mkF m 14 #[.val (.long q1), .second, .val (.int hh)] [(.int (q1.toInt32)), (.int (32 : Int32))])) _
    refine st1 _ ?_
    show Steps p.tables e below (T1.setTop (mkF m 17 #[.val (.long q1), .second, .val (.int hh)] [(.int z1), (.int (32 : Int32))])) _
    refine XS.iadd X1.here hx rfl (hb hby own_d3_17) rfl ?_
    show Steps p.tables e below (T1.setTop (mkF m 18 #[.val (.long q1), .second, .val (.int hh)] [(.int ((32 : Int32) + z1))])) _
    refine XS.goto X1.here hx rfl (pc0 := 18) (pc' := 25) rfl (hb hby own_d3_18) (by decide) (by decide) ?_
    show Steps p.tables e below (T1.setTop (mkF m 25 #[.val (.long q1), .second, .val (.int hh)] [(.int ((32 : Int32) + z1))])) _
    exact retI X1 hx Bd.returns (hb hby own_d3_25) hr
  · show own_Q64 q1 h0 _ T1.heap _
    rw [e1]
    exact ⟨_, rfl, rfl, rfl, own_b64lo hv (h_hh ▸ (own_hi q1 hv).2) hz' hz1⟩
theorem own_d3_21 : decode jdk_35_method_48_code 21 = .ok (.iload_n 2, 1) := by decide +kernel
theorem own_d3_22 : decode jdk_35_method_48_code 22 = .ok (.invokestatic 308, 3) := by decide +kernel
set_option maxRecDepth 65536 in
set_option maxHeartbeats 40000000 in
theorem own_nlz64t (l : Launch) (Z : State) (a0 : Array Value) (hw : ∀ d ∈ tables_1, d.before a0 Z = true) (ws : List Jvm.Cond) (q1 : Int64) (h0 : Heap) (n0 : Nat) (O0 : Old Z n0 h0) (hv : (0 : Int64) < q1) (hz : ¬ ((((q1.toUInt64 >>> ((32 : Int32) &&& 0x3f).toInt64.toUInt64).toInt64).toInt32) = (0 : Int32))) :
    MetFree l (⟨"java/lang/Long", "numberOfLeadingZeros", "(J)I"⟩ : MethodName) (head1 (Jvm.Cond.code (⟨"java/lang/Long", "numberOfLeadingZeros", "(J)I"⟩ : MethodName) jdk_35_method_48_code 3 (some .int) :: ws) ({ frames := 1, cells := 0, slots := 0, locals := 14 } : Room)) (fun aa_ U_ => aa_ = #[(.long q1)] ∧ Z.Warmed39 U_.vm ∧ U_.heap = h0) (fun _ _ _ _ _ => True) (fun _ U_ oo_ UU_ => ∃ vv_ LL_, oo_ = .returned vv_ ∧ own_Q64 q1 h0 vv_ UU_.heap LL_ ∧ FrameEnd U_ oo_ UU_ LL_ ({ frames := 1, cells := 0, slots := 0, locals := 14 } : Room).cells ({ frames := 1, cells := 0, slots := 0, locals := 14 } : Room).slots) := by
  refine MetFree.of_bodySF (plainFor_of_name own_pn1) hisR ?_
  intro p e s m args below meth c s₁ Bd hml0 hP hK
  obtain ⟨rfl, hZ, hh⟩ := hP
  have hx := Bd.exec
  have hby := Bd.bytes
  have hml : c.maxLocals = 3 := hml0
  have hown : s.vm.findClass "java/lang/Long" = some m.cls := findClass_of_methodNamed Bd.named
  have hnm := (name_of_methodNamed Bd.named Bd.method).1
  have X0 : Stand p l e ({ frames := 1, cells := 0, slots := 0, locals := 14 } : Room) s m #[(.long q1)] below meth c s₁ [] 0 0 := Stand.of_body Bd
  have e0 : s₁.heap = h0 := by rw [← hh, Bd.state]; rfl
  have N0 := Fr.nil n0
  have pre0 : ∀ t, Steps p.tables e below (s₁.setTop (mkF m 0 #[.val (.long q1), .second, .unset] [])) t → Steps p.tables e below (s₁.setTop (entryFrame m #[(.long q1)] 3)) t := fun t k => castTop (own_ef3 m q1) k
  obtain ⟨hh, h_hh⟩ : ∃ z : Int32, z = (((q1.toUInt64 >>> ((32 : Int32) &&& 0x3f).toInt64.toUInt64).toInt64).toInt32) := ⟨_, rfl⟩
  have hz' : ¬ (hh = (0 : Int32)) := by rw [h_hh]; exact hz
  obtain ⟨_, _, ⟨T1, L1, k1, n1⟩, -, X1, ⟨Lc1, hQ1, l1, y1, z1⟩, st1⟩ := Jvm.LawKit.callS X0 hx (y := (⟨"java/lang/Integer", "numberOfLeadingZeros", "(I)I"⟩ : MethodName)) hown (mvT hZ (hw _ (List.mem_of_getElem? (i := 33) rfl))) (mvT hZ (hw _ (List.mem_of_getElem? (i := 34) rfl))) (mvT hZ (hw _ (List.mem_of_getElem? (i := 35) rfl))) (mvT hZ (hw _ (List.mem_of_getElem? (i := 36) rfl))) (by decide) (backOf (W := 0) (own_nlz32 l Z a0 hw [] hh h0 n0 O0 hz') hZ (hw _ (List.mem_of_getElem? (i := 36) rfl)) (hw _ (List.mem_of_getElem? (i := 35) rfl)) (by decide) (by decide)) (g := (mkF m 22 #[.val (.long q1), .second, .val (.int hh)] [(.int hh)])) rfl (by rw [hml]; rfl) (argsL := [(.int hh)]) (rest := []) (lenOf own_pd0 rfl) rfl (by show 2 * 0 + _ ≤ _; exact Nat.le_of_eq rfl) (hb hby own_d3_22) (fun _ _ => ⟨rfl, e0, (by decide : 0 + 0 ≤ _), (by decide : 0 + 0 ≤ _)⟩)
  dsimp only [Pt.U, Pt.locs, Pt.cells, Pt.slots] at X1 l1 y1 z1 st1 hQ1
  subst l1 y1 z1
  obtain ⟨z1, rfl, rfl, e1, hz1⟩ := hQ1
  try rw [List.append_nil] at X1
  obtain ⟨fs, hr, hrun, hended, hW, hsame⟩ := X1.leave (v := some (.int z1)) (fun h => by rw [Bd.returns] at h; cases h)
  refine ⟨_, _, pre0 _ ?_, hrun, hended, _, _, rfl, ?_, ⟨_, rfl⟩, hW, hsame.mono (by decide) (by decide)⟩
  · show Steps p.tables e below (s₁.setTop (mkF m 0 #[.val (.long q1), .second, .unset] [])) _
    refine XS.lloadN X0.here hx rfl (hb hby own_d3_0) rfl ?_
    show Steps p.tables e below (s₁.setTop (mkF m 1 #[.val (.long q1), .second, .unset] [(.long q1)])) _
    refine XS.bipush X0.here hx rfl (hb hby own_d3_1) ?_
    show Steps p.tables e below (s₁.setTop (mkF m 3 #[.val (.long q1), .second, .unset] [(.int (32 : Int32)), (.long q1)])) _
    refine XS.lushr X0.here hx rfl (hb hby own_d3_3) rfl ?_
    show Steps p.tables e below (s₁.setTop (mkF m 4 #[.val (.long q1), .second, .unset] [(.long ((q1.toUInt64 >>> ((32 : Int32) &&& 0x3f).toInt64.toUInt64).toInt64))])) _
    refine XS.l2i X0.here hx rfl (hb hby own_d3_4) rfl ?_
    show Steps p.tables e below (s₁.setTop (mkF m 5 #[.val (.long q1), .second, .unset] [(.int (((q1.toUInt64 >>> ((32 : Int32) &&& 0x3f).toInt64.toUInt64).toInt64).toInt32))])) _
    refine XS.istoreN X0.here hx rfl (hb hby own_d3_5) rfl (l' := #[.val (.long q1), .second, .val (.int (((q1.toUInt64 >>> ((32 : Int32) &&& 0x3f).toInt64.toUInt64).toInt64).toInt32))]) rfl ?_
    show Steps p.tables e below (s₁.setTop (mkF m 6 #[.val (.long q1), .second, .val (.int (((q1.toUInt64 >>> ((32 : Int32) &&& 0x3f).toInt64.toUInt64).toInt64).toInt32))] [])) _
    rw [← h_hh]
    show Steps p.tables e below (s₁.setTop (mkF m 6 #[.val (.long q1), .second, .val (.int hh)] [])) _
    refine XS.iloadN X0.here hx rfl (hb hby own_d3_6) rfl ?_
    show Steps p.tables e below (s₁.setTop (mkF m 7 #[.val (.long q1), .second, .val (.int hh)] [(.int hh)])) _
    refine XS.ifYes X0.here hx rfl (pc0 := 7) (pc' := 21) rfl (hb hby own_d3_7) rfl ((if0 _ _).trans (feq hz').2) (by decide) (by decide) ?_
    show Steps p.tables e below (s₁.setTop (mkF m 21 #[.val (.long q1), .second, .val (.int hh)] [])) _
    refine XS.iloadN X0.here hx rfl (hb hby own_d3_21) rfl ?_
    show Steps p.tables e below (s₁.setTop (mkF m 22 #[.val (.long q1), .second, .val (.int hh)] [(.int hh)])) _
    refine st1 _ ?_
    show Steps p.tables e below (T1.setTop (mkF m 25 #[.val (.long q1), .second, .val (.int hh)] [(.int z1)])) _
    exact retI X1 hx Bd.returns (hb hby own_d3_25) hr
  · show own_Q64 q1 h0 _ T1.heap _
    rw [e1]
    exact ⟨_, rfl, rfl, rfl, own_b64hi hv (h_hh ▸ (own_hi q1 hv).2) hz1⟩
theorem own_nlz64 (l : Launch) (Z : State) (a0 : Array Value) (hw : ∀ d ∈ tables_1, d.before a0 Z = true) (ws : List Jvm.Cond) (q1 : Int64) (h0 : Heap) (n0 : Nat) (O0 : Old Z n0 h0) (hv : (0 : Int64) < q1) :
    MetFree l (⟨"java/lang/Long", "numberOfLeadingZeros", "(J)I"⟩ : MethodName) (head1 (Jvm.Cond.code (⟨"java/lang/Long", "numberOfLeadingZeros", "(J)I"⟩ : MethodName) jdk_35_method_48_code 3 (some .int) :: ws) ({ frames := 1, cells := 0, slots := 0, locals := 14 } : Room)) (fun a U => a = #[(.long q1)] ∧ Z.Warmed39 U.vm ∧ U.heap = h0) (fun _ _ _ _ _ => True) (fun _ U o U' => ∃ v L, o = .returned v ∧ own_Q64 q1 h0 v U'.heap L ∧ FrameEnd U o U' L ({ frames := 1, cells := 0, slots := 0, locals := 14 } : Room).cells ({ frames := 1, cells := 0, slots := 0, locals := 14 } : Room).slots) := by
  by_cases hz : (((q1.toUInt64 >>> ((32 : Int32) &&& 0x3f).toInt64.toUInt64).toInt64).toInt32) = (0 : Int32)
  · exact own_nlz64f l Z a0 hw ws q1 h0 n0 O0 hv hz
  · exact own_nlz64t l Z a0 hw ws q1 h0 n0 O0 hv hz
theorem own_d5_0 : decode method_4_code 0 = .ok (.lload_n 0, 1) := by decide +kernel
theorem own_d5_1 : decode method_4_code 1 = .ok (.ldc2_w 27, 3) := by decide +kernel
theorem own_d5_4 : decode method_4_code 4 = .ok (.lcmp, 1) := by decide +kernel
theorem own_d5_5 : decode method_4_code 5 = .ok (.ifCond .ge 5, 3) := by decide +kernel
theorem own_d5_8 : decode method_4_code 8 = .ok (.iconst 1, 1) := by decide +kernel
theorem own_d5_9 : decode method_4_code 9 = .ok (.ireturn, 1) := by decide +kernel
theorem own_d5_10 : decode method_4_code 10 = .ok (.lload_n 0, 1) := by decide +kernel
theorem own_d5_11 : decode method_4_code 11 = .ok (.ldc2_w 29, 3) := by decide +kernel
theorem own_d5_14 : decode method_4_code 14 = .ok (.lcmp, 1) := by decide +kernel
theorem own_d5_15 : decode method_4_code 15 = .ok (.ifCond .ge 5, 3) := by decide +kernel
theorem own_d5_18 : decode method_4_code 18 = .ok (.iconst 2, 1) := by decide +kernel
theorem own_d5_19 : decode method_4_code 19 = .ok (.ireturn, 1) := by decide +kernel
theorem own_d5_20 : decode method_4_code 20 = .ok (.lload_n 0, 1) := by decide +kernel
theorem own_d5_21 : decode method_4_code 21 = .ok (.ldc2_w 31, 3) := by decide +kernel
theorem own_d5_24 : decode method_4_code 24 = .ok (.lcmp, 1) := by decide +kernel
theorem own_d5_25 : decode method_4_code 25 = .ok (.ifCond .ge 5, 3) := by decide +kernel
theorem own_d5_28 : decode method_4_code 28 = .ok (.iconst 3, 1) := by decide +kernel
theorem own_d5_29 : decode method_4_code 29 = .ok (.ireturn, 1) := by decide +kernel
theorem own_d5_30 : decode method_4_code 30 = .ok (.lload_n 0, 1) := by decide +kernel
theorem own_d5_31 : decode method_4_code 31 = .ok (.ldc2_w 33, 3) := by decide +kernel
theorem own_d5_34 : decode method_4_code 34 = .ok (.lcmp, 1) := by decide +kernel
theorem own_d5_35 : decode method_4_code 35 = .ok (.ifCond .ge 5, 3) := by decide +kernel
theorem own_d5_38 : decode method_4_code 38 = .ok (.iconst 4, 1) := by decide +kernel
theorem own_d5_39 : decode method_4_code 39 = .ok (.ireturn, 1) := by decide +kernel
theorem own_d5_40 : decode method_4_code 40 = .ok (.lload_n 0, 1) := by decide +kernel
theorem own_d5_41 : decode method_4_code 41 = .ok (.ldc2_w 35, 3) := by decide +kernel
theorem own_d5_44 : decode method_4_code 44 = .ok (.lcmp, 1) := by decide +kernel
theorem own_d5_45 : decode method_4_code 45 = .ok (.ifCond .ge 5, 3) := by decide +kernel
theorem own_d5_48 : decode method_4_code 48 = .ok (.iconst 5, 1) := by decide +kernel
theorem own_d5_49 : decode method_4_code 49 = .ok (.ireturn, 1) := by decide +kernel
theorem own_d5_50 : decode method_4_code 50 = .ok (.lload_n 0, 1) := by decide +kernel
theorem own_d5_51 : decode method_4_code 51 = .ok (.ldc2_w 37, 3) := by decide +kernel
theorem own_d5_54 : decode method_4_code 54 = .ok (.lcmp, 1) := by decide +kernel
theorem own_d5_55 : decode method_4_code 55 = .ok (.ifCond .ge 6, 3) := by decide +kernel
theorem own_d5_58 : decode method_4_code 58 = .ok (.bipush 6, 2) := by decide +kernel
theorem own_d5_60 : decode method_4_code 60 = .ok (.ireturn, 1) := by decide +kernel
theorem own_d5_61 : decode method_4_code 61 = .ok (.lload_n 0, 1) := by decide +kernel
theorem own_d5_62 : decode method_4_code 62 = .ok (.ldc2_w 39, 3) := by decide +kernel
theorem own_d5_65 : decode method_4_code 65 = .ok (.lcmp, 1) := by decide +kernel
theorem own_d5_66 : decode method_4_code 66 = .ok (.ifCond .ge 6, 3) := by decide +kernel
theorem own_d5_69 : decode method_4_code 69 = .ok (.bipush 7, 2) := by decide +kernel
theorem own_d5_71 : decode method_4_code 71 = .ok (.ireturn, 1) := by decide +kernel
theorem own_d5_72 : decode method_4_code 72 = .ok (.lload_n 0, 1) := by decide +kernel
theorem own_d5_73 : decode method_4_code 73 = .ok (.ldc2_w 41, 3) := by decide +kernel
theorem own_d5_76 : decode method_4_code 76 = .ok (.lcmp, 1) := by decide +kernel
theorem own_d5_77 : decode method_4_code 77 = .ok (.ifCond .ge 6, 3) := by decide +kernel
theorem own_d5_80 : decode method_4_code 80 = .ok (.bipush 8, 2) := by decide +kernel
theorem own_d5_82 : decode method_4_code 82 = .ok (.ireturn, 1) := by decide +kernel
theorem own_d5_83 : decode method_4_code 83 = .ok (.lload_n 0, 1) := by decide +kernel
theorem own_d5_84 : decode method_4_code 84 = .ok (.ldc2_w 43, 3) := by decide +kernel
theorem own_d5_87 : decode method_4_code 87 = .ok (.lcmp, 1) := by decide +kernel
theorem own_d5_88 : decode method_4_code 88 = .ok (.ifCond .ge 6, 3) := by decide +kernel
theorem own_d5_91 : decode method_4_code 91 = .ok (.bipush 9, 2) := by decide +kernel
theorem own_d5_93 : decode method_4_code 93 = .ok (.ireturn, 1) := by decide +kernel
theorem own_d5_94 : decode method_4_code 94 = .ok (.lload_n 0, 1) := by decide +kernel
theorem own_d5_95 : decode method_4_code 95 = .ok (.ldc2_w 45, 3) := by decide +kernel
theorem own_d5_98 : decode method_4_code 98 = .ok (.lcmp, 1) := by decide +kernel
theorem own_d5_99 : decode method_4_code 99 = .ok (.ifCond .ge 6, 3) := by decide +kernel
theorem own_d5_102 : decode method_4_code 102 = .ok (.bipush 10, 2) := by decide +kernel
theorem own_d5_104 : decode method_4_code 104 = .ok (.ireturn, 1) := by decide +kernel
theorem own_d5_105 : decode method_4_code 105 = .ok (.lload_n 0, 1) := by decide +kernel
theorem own_d5_106 : decode method_4_code 106 = .ok (.ldc2_w 47, 3) := by decide +kernel
theorem own_d5_109 : decode method_4_code 109 = .ok (.lcmp, 1) := by decide +kernel
theorem own_d5_110 : decode method_4_code 110 = .ok (.ifCond .ge 6, 3) := by decide +kernel
theorem own_d5_113 : decode method_4_code 113 = .ok (.bipush 11, 2) := by decide +kernel
theorem own_d5_115 : decode method_4_code 115 = .ok (.ireturn, 1) := by decide +kernel
theorem own_d5_116 : decode method_4_code 116 = .ok (.lload_n 0, 1) := by decide +kernel
theorem own_d5_117 : decode method_4_code 117 = .ok (.ldc2_w 49, 3) := by decide +kernel
theorem own_d5_120 : decode method_4_code 120 = .ok (.lcmp, 1) := by decide +kernel
theorem own_d5_121 : decode method_4_code 121 = .ok (.ifCond .ge 6, 3) := by decide +kernel
theorem own_d5_124 : decode method_4_code 124 = .ok (.bipush 12, 2) := by decide +kernel
theorem own_d5_126 : decode method_4_code 126 = .ok (.ireturn, 1) := by decide +kernel
theorem own_d5_127 : decode method_4_code 127 = .ok (.lload_n 0, 1) := by decide +kernel
theorem own_d5_128 : decode method_4_code 128 = .ok (.ldc2_w 51, 3) := by decide +kernel
theorem own_d5_131 : decode method_4_code 131 = .ok (.lcmp, 1) := by decide +kernel
theorem own_d5_132 : decode method_4_code 132 = .ok (.ifCond .ge 6, 3) := by decide +kernel
theorem own_d5_135 : decode method_4_code 135 = .ok (.bipush 13, 2) := by decide +kernel
theorem own_d5_137 : decode method_4_code 137 = .ok (.ireturn, 1) := by decide +kernel
theorem own_d5_138 : decode method_4_code 138 = .ok (.lload_n 0, 1) := by decide +kernel
theorem own_d5_139 : decode method_4_code 139 = .ok (.ldc2_w 53, 3) := by decide +kernel
theorem own_d5_142 : decode method_4_code 142 = .ok (.lcmp, 1) := by decide +kernel
theorem own_d5_143 : decode method_4_code 143 = .ok (.ifCond .ge 6, 3) := by decide +kernel
theorem own_d5_146 : decode method_4_code 146 = .ok (.bipush 14, 2) := by decide +kernel
theorem own_d5_148 : decode method_4_code 148 = .ok (.ireturn, 1) := by decide +kernel
theorem own_d5_149 : decode method_4_code 149 = .ok (.lload_n 0, 1) := by decide +kernel
theorem own_d5_150 : decode method_4_code 150 = .ok (.ldc2_w 55, 3) := by decide +kernel
theorem own_d5_153 : decode method_4_code 153 = .ok (.lcmp, 1) := by decide +kernel
theorem own_d5_154 : decode method_4_code 154 = .ok (.ifCond .ge 6, 3) := by decide +kernel
theorem own_d5_157 : decode method_4_code 157 = .ok (.bipush 15, 2) := by decide +kernel
theorem own_d5_159 : decode method_4_code 159 = .ok (.ireturn, 1) := by decide +kernel
theorem own_d5_160 : decode method_4_code 160 = .ok (.lload_n 0, 1) := by decide +kernel
theorem own_d5_161 : decode method_4_code 161 = .ok (.ldc2_w 57, 3) := by decide +kernel
theorem own_d5_164 : decode method_4_code 164 = .ok (.lcmp, 1) := by decide +kernel
theorem own_d5_165 : decode method_4_code 165 = .ok (.ifCond .ge 6, 3) := by decide +kernel
theorem own_d5_168 : decode method_4_code 168 = .ok (.bipush 16, 2) := by decide +kernel
theorem own_d5_170 : decode method_4_code 170 = .ok (.ireturn, 1) := by decide +kernel
theorem own_d5_171 : decode method_4_code 171 = .ok (.lload_n 0, 1) := by decide +kernel
theorem own_d5_172 : decode method_4_code 172 = .ok (.ldc2_w 59, 3) := by decide +kernel
theorem own_d5_175 : decode method_4_code 175 = .ok (.lcmp, 1) := by decide +kernel
theorem own_d5_176 : decode method_4_code 176 = .ok (.ifCond .ge 6, 3) := by decide +kernel
theorem own_d5_179 : decode method_4_code 179 = .ok (.bipush 17, 2) := by decide +kernel
theorem own_d5_181 : decode method_4_code 181 = .ok (.ireturn, 1) := by decide +kernel
theorem own_d5_182 : decode method_4_code 182 = .ok (.lload_n 0, 1) := by decide +kernel
theorem own_d5_183 : decode method_4_code 183 = .ok (.ldc2_w 61, 3) := by decide +kernel
theorem own_d5_186 : decode method_4_code 186 = .ok (.lcmp, 1) := by decide +kernel
theorem own_d5_187 : decode method_4_code 187 = .ok (.ifCond .ge 6, 3) := by decide +kernel
theorem own_d5_190 : decode method_4_code 190 = .ok (.bipush 18, 2) := by decide +kernel
theorem own_d5_192 : decode method_4_code 192 = .ok (.ireturn, 1) := by decide +kernel
theorem own_d5_193 : decode method_4_code 193 = .ok (.bipush 19, 2) := by decide +kernel
theorem own_d5_195 : decode method_4_code 195 = .ok (.ireturn, 1) := by decide +kernel
theorem own_ef5 (m : MethodId) (x0 : Int64) : entryFrame m #[(.long x0)] 2 = mkF m 0 #[.val (.long x0), .second] [] := by first | (simp [entryFrame, mkF, argsToLocals, Value.category]; done) | rfl
theorem own_pn2 : plainName "com/example/midpoint/midpoint/digits/PowersOfTenDigitCountPinLaw" = true := by first | (simp [plainName, overriddenIn]; done) | decide +kernel
set_option maxRecDepth 65536 in
set_option maxHeartbeats 40000000 in
theorem own_digits (l : Launch) (Z : State) (a0 : Array Value) (hw : ∀ d ∈ tables_1, d.before a0 Z = true) (ws : List Jvm.Cond) (q1 : Int64) (h0 : Heap) (n0 : Nat) (O0 : Old Z n0 h0)  :
    MetFree l (⟨"com/example/midpoint/midpoint/digits/PowersOfTenDigitCountPinLaw", "digits", "(J)I"⟩ : MethodName) (head1 (Jvm.Cond.code (⟨"com/example/midpoint/midpoint/digits/PowersOfTenDigitCountPinLaw", "digits", "(J)I"⟩ : MethodName) method_4_code 2 (some .int) :: ws) ({ frames := 0, cells := 0, slots := 0, locals := 0 } : Room)) (fun aa_ U_ => aa_ = #[(.long q1)] ∧ Z.Warmed39 U_.vm ∧ U_.heap = h0) (fun _ _ _ _ _ => True) (fun _ U_ oo_ UU_ => ∃ vv_ LL_, oo_ = .returned vv_ ∧ own_P (.int (own_dig q1)) h0 vv_ UU_.heap LL_ ∧ FrameEnd U_ oo_ UU_ LL_ ({ frames := 0, cells := 0, slots := 0, locals := 0 } : Room).cells ({ frames := 0, cells := 0, slots := 0, locals := 0 } : Room).slots) := by
  refine MetFree.of_bodySF (plainFor_of_name own_pn2) hisR ?_
  intro p e s m args below meth c s₁ Bd hml0 hP hK
  obtain ⟨rfl, hZ, hh⟩ := hP
  have hx := Bd.exec
  have hby := Bd.bytes
  have hml : c.maxLocals = 2 := hml0
  have hown : s.vm.findClass "com/example/midpoint/midpoint/digits/PowersOfTenDigitCountPinLaw" = some m.cls := findClass_of_methodNamed Bd.named
  have hnm := (name_of_methodNamed Bd.named Bd.method).1
  have X0 : Stand p l e ({ frames := 0, cells := 0, slots := 0, locals := 0 } : Room) s m #[(.long q1)] below meth c s₁ [] 0 0 := Stand.of_body Bd
  have e0 : s₁.heap = h0 := by rw [← hh, Bd.state]; rfl
  have N0 := Fr.nil n0
  have pre0 : ∀ t, Steps p.tables e below (s₁.setTop (mkF m 0 #[.val (.long q1), .second] [])) t → Steps p.tables e below (s₁.setTop (entryFrame m #[(.long q1)] 2)) t := fun t k => castTop (own_ef5 m q1) k
  obtain ⟨fs, hr, hrun, hended, hW, hsame⟩ := X0.leave (v := some (.int (own_dig q1))) (fun h => by rw [Bd.returns] at h; cases h)
  refine ⟨_, _, pre0 _ ?_, hrun, hended, _, _, rfl, ?_, ⟨_, rfl⟩, hW, hsame.mono (by decide) (by decide)⟩
  · show Steps p.tables e below (s₁.setTop (mkF m 0 #[.val (.long q1), .second] [])) _
    refine XS.lloadN X0.here hx rfl (hb hby own_d5_0) rfl ?_
    show Steps p.tables e below (s₁.setTop (mkF m 1 #[.val (.long q1), .second] [(.long q1)])) _
    refine X0.ldc2Long hx hown (mvT hZ (hw _ (List.mem_of_getElem? (i := 7) rfl))) (g := (mkF m 1 #[.val (.long q1), .second] [(.long q1)])) rfl (hb hby own_d5_1) _ ?_
    show Steps p.tables e below (s₁.setTop (mkF m 4 #[.val (.long q1), .second] [(.long (10 : Int64)), (.long q1)])) _
    refine XS.lcmp X0.here hx rfl (hb hby own_d5_4) rfl ?_
    show Steps p.tables e below (s₁.setTop (mkF m 5 #[.val (.long q1), .second] [(.int (lcmpW q1 (10 : Int64)))])) _
    by_cases hq0 : q1 < (10 : Int64)
    · refine XS.ifNo X0.here hx rfl (hb hby own_d5_5) rfl ((if0 _ _).trans (tlt ((lw_lt _ _).mpr hq0)).2.1) ?_
      show Steps p.tables e below (s₁.setTop (mkF m 8 #[.val (.long q1), .second] [])) _
      refine XS.iconst X0.here hx rfl (hb hby own_d5_8) ?_
      show Steps p.tables e below (s₁.setTop (mkF m 9 #[.val (.long q1), .second] [(.int (1 : Int32))])) _
      have hd : own_dig q1 = (1 : Int32) := by simp only [own_dig, hq0, if_true, if_false]
      rw [hd] at hr
      exact retI X0 hx Bd.returns (hb hby own_d5_9) hr
    · skip
      refine XS.ifYes X0.here hx rfl (pc0 := 5) (pc' := 10) rfl (hb hby own_d5_5) rfl ((if0 _ _).trans (flt (fun q => hq0 ((lw_lt _ _).mp q))).2.1) (by decide) (by decide) ?_
      show Steps p.tables e below (s₁.setTop (mkF m 10 #[.val (.long q1), .second] [])) _
      refine XS.lloadN X0.here hx rfl (hb hby own_d5_10) rfl ?_
      show Steps p.tables e below (s₁.setTop (mkF m 11 #[.val (.long q1), .second] [(.long q1)])) _
      refine X0.ldc2Long hx hown (mvT hZ (hw _ (List.mem_of_getElem? (i := 8) rfl))) (g := (mkF m 11 #[.val (.long q1), .second] [(.long q1)])) rfl (hb hby own_d5_11) _ ?_
      show Steps p.tables e below (s₁.setTop (mkF m 14 #[.val (.long q1), .second] [(.long (100 : Int64)), (.long q1)])) _
      refine XS.lcmp X0.here hx rfl (hb hby own_d5_14) rfl ?_
      show Steps p.tables e below (s₁.setTop (mkF m 15 #[.val (.long q1), .second] [(.int (lcmpW q1 (100 : Int64)))])) _
      by_cases hq1 : q1 < (100 : Int64)
      · refine XS.ifNo X0.here hx rfl (hb hby own_d5_15) rfl ((if0 _ _).trans (tlt ((lw_lt _ _).mpr hq1)).2.1) ?_
        show Steps p.tables e below (s₁.setTop (mkF m 18 #[.val (.long q1), .second] [])) _
        refine XS.iconst X0.here hx rfl (hb hby own_d5_18) ?_
        show Steps p.tables e below (s₁.setTop (mkF m 19 #[.val (.long q1), .second] [(.int (2 : Int32))])) _
        have hd : own_dig q1 = (2 : Int32) := by simp only [own_dig, hq0, hq1, if_true, if_false]
        rw [hd] at hr
        exact retI X0 hx Bd.returns (hb hby own_d5_19) hr
      · skip
        refine XS.ifYes X0.here hx rfl (pc0 := 15) (pc' := 20) rfl (hb hby own_d5_15) rfl ((if0 _ _).trans (flt (fun q => hq1 ((lw_lt _ _).mp q))).2.1) (by decide) (by decide) ?_
        show Steps p.tables e below (s₁.setTop (mkF m 20 #[.val (.long q1), .second] [])) _
        refine XS.lloadN X0.here hx rfl (hb hby own_d5_20) rfl ?_
        show Steps p.tables e below (s₁.setTop (mkF m 21 #[.val (.long q1), .second] [(.long q1)])) _
        refine X0.ldc2Long hx hown (mvT hZ (hw _ (List.mem_of_getElem? (i := 9) rfl))) (g := (mkF m 21 #[.val (.long q1), .second] [(.long q1)])) rfl (hb hby own_d5_21) _ ?_
        show Steps p.tables e below (s₁.setTop (mkF m 24 #[.val (.long q1), .second] [(.long (1000 : Int64)), (.long q1)])) _
        refine XS.lcmp X0.here hx rfl (hb hby own_d5_24) rfl ?_
        show Steps p.tables e below (s₁.setTop (mkF m 25 #[.val (.long q1), .second] [(.int (lcmpW q1 (1000 : Int64)))])) _
        by_cases hq2 : q1 < (1000 : Int64)
        · refine XS.ifNo X0.here hx rfl (hb hby own_d5_25) rfl ((if0 _ _).trans (tlt ((lw_lt _ _).mpr hq2)).2.1) ?_
          show Steps p.tables e below (s₁.setTop (mkF m 28 #[.val (.long q1), .second] [])) _
          refine XS.iconst X0.here hx rfl (hb hby own_d5_28) ?_
          show Steps p.tables e below (s₁.setTop (mkF m 29 #[.val (.long q1), .second] [(.int (3 : Int32))])) _
          have hd : own_dig q1 = (3 : Int32) := by simp only [own_dig, hq0, hq1, hq2, if_true, if_false]
          rw [hd] at hr
          exact retI X0 hx Bd.returns (hb hby own_d5_29) hr
        · skip
          refine XS.ifYes X0.here hx rfl (pc0 := 25) (pc' := 30) rfl (hb hby own_d5_25) rfl ((if0 _ _).trans (flt (fun q => hq2 ((lw_lt _ _).mp q))).2.1) (by decide) (by decide) ?_
          show Steps p.tables e below (s₁.setTop (mkF m 30 #[.val (.long q1), .second] [])) _
          refine XS.lloadN X0.here hx rfl (hb hby own_d5_30) rfl ?_
          show Steps p.tables e below (s₁.setTop (mkF m 31 #[.val (.long q1), .second] [(.long q1)])) _
          refine X0.ldc2Long hx hown (mvT hZ (hw _ (List.mem_of_getElem? (i := 10) rfl))) (g := (mkF m 31 #[.val (.long q1), .second] [(.long q1)])) rfl (hb hby own_d5_31) _ ?_
          show Steps p.tables e below (s₁.setTop (mkF m 34 #[.val (.long q1), .second] [(.long (10000 : Int64)), (.long q1)])) _
          refine XS.lcmp X0.here hx rfl (hb hby own_d5_34) rfl ?_
          show Steps p.tables e below (s₁.setTop (mkF m 35 #[.val (.long q1), .second] [(.int (lcmpW q1 (10000 : Int64)))])) _
          by_cases hq3 : q1 < (10000 : Int64)
          · refine XS.ifNo X0.here hx rfl (hb hby own_d5_35) rfl ((if0 _ _).trans (tlt ((lw_lt _ _).mpr hq3)).2.1) ?_
            show Steps p.tables e below (s₁.setTop (mkF m 38 #[.val (.long q1), .second] [])) _
            refine XS.iconst X0.here hx rfl (hb hby own_d5_38) ?_
            show Steps p.tables e below (s₁.setTop (mkF m 39 #[.val (.long q1), .second] [(.int (4 : Int32))])) _
            have hd : own_dig q1 = (4 : Int32) := by simp only [own_dig, hq0, hq1, hq2, hq3, if_true, if_false]
            rw [hd] at hr
            exact retI X0 hx Bd.returns (hb hby own_d5_39) hr
          · skip
            refine XS.ifYes X0.here hx rfl (pc0 := 35) (pc' := 40) rfl (hb hby own_d5_35) rfl ((if0 _ _).trans (flt (fun q => hq3 ((lw_lt _ _).mp q))).2.1) (by decide) (by decide) ?_
            show Steps p.tables e below (s₁.setTop (mkF m 40 #[.val (.long q1), .second] [])) _
            refine XS.lloadN X0.here hx rfl (hb hby own_d5_40) rfl ?_
            show Steps p.tables e below (s₁.setTop (mkF m 41 #[.val (.long q1), .second] [(.long q1)])) _
            refine X0.ldc2Long hx hown (mvT hZ (hw _ (List.mem_of_getElem? (i := 11) rfl))) (g := (mkF m 41 #[.val (.long q1), .second] [(.long q1)])) rfl (hb hby own_d5_41) _ ?_
            show Steps p.tables e below (s₁.setTop (mkF m 44 #[.val (.long q1), .second] [(.long (100000 : Int64)), (.long q1)])) _
            refine XS.lcmp X0.here hx rfl (hb hby own_d5_44) rfl ?_
            show Steps p.tables e below (s₁.setTop (mkF m 45 #[.val (.long q1), .second] [(.int (lcmpW q1 (100000 : Int64)))])) _
            by_cases hq4 : q1 < (100000 : Int64)
            · refine XS.ifNo X0.here hx rfl (hb hby own_d5_45) rfl ((if0 _ _).trans (tlt ((lw_lt _ _).mpr hq4)).2.1) ?_
              show Steps p.tables e below (s₁.setTop (mkF m 48 #[.val (.long q1), .second] [])) _
              refine XS.iconst X0.here hx rfl (hb hby own_d5_48) ?_
              show Steps p.tables e below (s₁.setTop (mkF m 49 #[.val (.long q1), .second] [(.int (5 : Int32))])) _
              have hd : own_dig q1 = (5 : Int32) := by simp only [own_dig, hq0, hq1, hq2, hq3, hq4, if_true, if_false]
              rw [hd] at hr
              exact retI X0 hx Bd.returns (hb hby own_d5_49) hr
            · skip
              refine XS.ifYes X0.here hx rfl (pc0 := 45) (pc' := 50) rfl (hb hby own_d5_45) rfl ((if0 _ _).trans (flt (fun q => hq4 ((lw_lt _ _).mp q))).2.1) (by decide) (by decide) ?_
              show Steps p.tables e below (s₁.setTop (mkF m 50 #[.val (.long q1), .second] [])) _
              refine XS.lloadN X0.here hx rfl (hb hby own_d5_50) rfl ?_
              show Steps p.tables e below (s₁.setTop (mkF m 51 #[.val (.long q1), .second] [(.long q1)])) _
              refine X0.ldc2Long hx hown (mvT hZ (hw _ (List.mem_of_getElem? (i := 12) rfl))) (g := (mkF m 51 #[.val (.long q1), .second] [(.long q1)])) rfl (hb hby own_d5_51) _ ?_
              show Steps p.tables e below (s₁.setTop (mkF m 54 #[.val (.long q1), .second] [(.long (1000000 : Int64)), (.long q1)])) _
              refine XS.lcmp X0.here hx rfl (hb hby own_d5_54) rfl ?_
              show Steps p.tables e below (s₁.setTop (mkF m 55 #[.val (.long q1), .second] [(.int (lcmpW q1 (1000000 : Int64)))])) _
              by_cases hq5 : q1 < (1000000 : Int64)
              · refine XS.ifNo X0.here hx rfl (hb hby own_d5_55) rfl ((if0 _ _).trans (tlt ((lw_lt _ _).mpr hq5)).2.1) ?_
                show Steps p.tables e below (s₁.setTop (mkF m 58 #[.val (.long q1), .second] [])) _
                refine XS.bipush X0.here hx rfl (hb hby own_d5_58) ?_
                show Steps p.tables e below (s₁.setTop (mkF m 60 #[.val (.long q1), .second] [(.int (6 : Int32))])) _
                have hd : own_dig q1 = (6 : Int32) := by simp only [own_dig, hq0, hq1, hq2, hq3, hq4, hq5, if_true, if_false]
                rw [hd] at hr
                exact retI X0 hx Bd.returns (hb hby own_d5_60) hr
              · skip
                refine XS.ifYes X0.here hx rfl (pc0 := 55) (pc' := 61) rfl (hb hby own_d5_55) rfl ((if0 _ _).trans (flt (fun q => hq5 ((lw_lt _ _).mp q))).2.1) (by decide) (by decide) ?_
                show Steps p.tables e below (s₁.setTop (mkF m 61 #[.val (.long q1), .second] [])) _
                refine XS.lloadN X0.here hx rfl (hb hby own_d5_61) rfl ?_
                show Steps p.tables e below (s₁.setTop (mkF m 62 #[.val (.long q1), .second] [(.long q1)])) _
                refine X0.ldc2Long hx hown (mvT hZ (hw _ (List.mem_of_getElem? (i := 13) rfl))) (g := (mkF m 62 #[.val (.long q1), .second] [(.long q1)])) rfl (hb hby own_d5_62) _ ?_
                show Steps p.tables e below (s₁.setTop (mkF m 65 #[.val (.long q1), .second] [(.long (10000000 : Int64)), (.long q1)])) _
                refine XS.lcmp X0.here hx rfl (hb hby own_d5_65) rfl ?_
                show Steps p.tables e below (s₁.setTop (mkF m 66 #[.val (.long q1), .second] [(.int (lcmpW q1 (10000000 : Int64)))])) _
                by_cases hq6 : q1 < (10000000 : Int64)
                · refine XS.ifNo X0.here hx rfl (hb hby own_d5_66) rfl ((if0 _ _).trans (tlt ((lw_lt _ _).mpr hq6)).2.1) ?_
                  show Steps p.tables e below (s₁.setTop (mkF m 69 #[.val (.long q1), .second] [])) _
                  refine XS.bipush X0.here hx rfl (hb hby own_d5_69) ?_
                  show Steps p.tables e below (s₁.setTop (mkF m 71 #[.val (.long q1), .second] [(.int (7 : Int32))])) _
                  have hd : own_dig q1 = (7 : Int32) := by simp only [own_dig, hq0, hq1, hq2, hq3, hq4, hq5, hq6, if_true, if_false]
                  rw [hd] at hr
                  exact retI X0 hx Bd.returns (hb hby own_d5_71) hr
                · skip
                  refine XS.ifYes X0.here hx rfl (pc0 := 66) (pc' := 72) rfl (hb hby own_d5_66) rfl ((if0 _ _).trans (flt (fun q => hq6 ((lw_lt _ _).mp q))).2.1) (by decide) (by decide) ?_
                  show Steps p.tables e below (s₁.setTop (mkF m 72 #[.val (.long q1), .second] [])) _
                  refine XS.lloadN X0.here hx rfl (hb hby own_d5_72) rfl ?_
                  show Steps p.tables e below (s₁.setTop (mkF m 73 #[.val (.long q1), .second] [(.long q1)])) _
                  refine X0.ldc2Long hx hown (mvT hZ (hw _ (List.mem_of_getElem? (i := 14) rfl))) (g := (mkF m 73 #[.val (.long q1), .second] [(.long q1)])) rfl (hb hby own_d5_73) _ ?_
                  show Steps p.tables e below (s₁.setTop (mkF m 76 #[.val (.long q1), .second] [(.long (100000000 : Int64)), (.long q1)])) _
                  refine XS.lcmp X0.here hx rfl (hb hby own_d5_76) rfl ?_
                  show Steps p.tables e below (s₁.setTop (mkF m 77 #[.val (.long q1), .second] [(.int (lcmpW q1 (100000000 : Int64)))])) _
                  by_cases hq7 : q1 < (100000000 : Int64)
                  · refine XS.ifNo X0.here hx rfl (hb hby own_d5_77) rfl ((if0 _ _).trans (tlt ((lw_lt _ _).mpr hq7)).2.1) ?_
                    show Steps p.tables e below (s₁.setTop (mkF m 80 #[.val (.long q1), .second] [])) _
                    refine XS.bipush X0.here hx rfl (hb hby own_d5_80) ?_
                    show Steps p.tables e below (s₁.setTop (mkF m 82 #[.val (.long q1), .second] [(.int (8 : Int32))])) _
                    have hd : own_dig q1 = (8 : Int32) := by simp only [own_dig, hq0, hq1, hq2, hq3, hq4, hq5, hq6, hq7, if_true, if_false]
                    rw [hd] at hr
                    exact retI X0 hx Bd.returns (hb hby own_d5_82) hr
                  · skip
                    refine XS.ifYes X0.here hx rfl (pc0 := 77) (pc' := 83) rfl (hb hby own_d5_77) rfl ((if0 _ _).trans (flt (fun q => hq7 ((lw_lt _ _).mp q))).2.1) (by decide) (by decide) ?_
                    show Steps p.tables e below (s₁.setTop (mkF m 83 #[.val (.long q1), .second] [])) _
                    refine XS.lloadN X0.here hx rfl (hb hby own_d5_83) rfl ?_
                    show Steps p.tables e below (s₁.setTop (mkF m 84 #[.val (.long q1), .second] [(.long q1)])) _
                    refine X0.ldc2Long hx hown (mvT hZ (hw _ (List.mem_of_getElem? (i := 15) rfl))) (g := (mkF m 84 #[.val (.long q1), .second] [(.long q1)])) rfl (hb hby own_d5_84) _ ?_
                    show Steps p.tables e below (s₁.setTop (mkF m 87 #[.val (.long q1), .second] [(.long (1000000000 : Int64)), (.long q1)])) _
                    refine XS.lcmp X0.here hx rfl (hb hby own_d5_87) rfl ?_
                    show Steps p.tables e below (s₁.setTop (mkF m 88 #[.val (.long q1), .second] [(.int (lcmpW q1 (1000000000 : Int64)))])) _
                    by_cases hq8 : q1 < (1000000000 : Int64)
                    · refine XS.ifNo X0.here hx rfl (hb hby own_d5_88) rfl ((if0 _ _).trans (tlt ((lw_lt _ _).mpr hq8)).2.1) ?_
                      show Steps p.tables e below (s₁.setTop (mkF m 91 #[.val (.long q1), .second] [])) _
                      refine XS.bipush X0.here hx rfl (hb hby own_d5_91) ?_
                      show Steps p.tables e below (s₁.setTop (mkF m 93 #[.val (.long q1), .second] [(.int (9 : Int32))])) _
                      have hd : own_dig q1 = (9 : Int32) := by simp only [own_dig, hq0, hq1, hq2, hq3, hq4, hq5, hq6, hq7, hq8, if_true, if_false]
                      rw [hd] at hr
                      exact retI X0 hx Bd.returns (hb hby own_d5_93) hr
                    · skip
                      refine XS.ifYes X0.here hx rfl (pc0 := 88) (pc' := 94) rfl (hb hby own_d5_88) rfl ((if0 _ _).trans (flt (fun q => hq8 ((lw_lt _ _).mp q))).2.1) (by decide) (by decide) ?_
                      show Steps p.tables e below (s₁.setTop (mkF m 94 #[.val (.long q1), .second] [])) _
                      refine XS.lloadN X0.here hx rfl (hb hby own_d5_94) rfl ?_
                      show Steps p.tables e below (s₁.setTop (mkF m 95 #[.val (.long q1), .second] [(.long q1)])) _
                      refine X0.ldc2Long hx hown (mvT hZ (hw _ (List.mem_of_getElem? (i := 16) rfl))) (g := (mkF m 95 #[.val (.long q1), .second] [(.long q1)])) rfl (hb hby own_d5_95) _ ?_
                      show Steps p.tables e below (s₁.setTop (mkF m 98 #[.val (.long q1), .second] [(.long (10000000000 : Int64)), (.long q1)])) _
                      refine XS.lcmp X0.here hx rfl (hb hby own_d5_98) rfl ?_
                      show Steps p.tables e below (s₁.setTop (mkF m 99 #[.val (.long q1), .second] [(.int (lcmpW q1 (10000000000 : Int64)))])) _
                      by_cases hq9 : q1 < (10000000000 : Int64)
                      · refine XS.ifNo X0.here hx rfl (hb hby own_d5_99) rfl ((if0 _ _).trans (tlt ((lw_lt _ _).mpr hq9)).2.1) ?_
                        show Steps p.tables e below (s₁.setTop (mkF m 102 #[.val (.long q1), .second] [])) _
                        refine XS.bipush X0.here hx rfl (hb hby own_d5_102) ?_
                        show Steps p.tables e below (s₁.setTop (mkF m 104 #[.val (.long q1), .second] [(.int (10 : Int32))])) _
                        have hd : own_dig q1 = (10 : Int32) := by simp only [own_dig, hq0, hq1, hq2, hq3, hq4, hq5, hq6, hq7, hq8, hq9, if_true, if_false]
                        rw [hd] at hr
                        exact retI X0 hx Bd.returns (hb hby own_d5_104) hr
                      · skip
                        refine XS.ifYes X0.here hx rfl (pc0 := 99) (pc' := 105) rfl (hb hby own_d5_99) rfl ((if0 _ _).trans (flt (fun q => hq9 ((lw_lt _ _).mp q))).2.1) (by decide) (by decide) ?_
                        show Steps p.tables e below (s₁.setTop (mkF m 105 #[.val (.long q1), .second] [])) _
                        refine XS.lloadN X0.here hx rfl (hb hby own_d5_105) rfl ?_
                        show Steps p.tables e below (s₁.setTop (mkF m 106 #[.val (.long q1), .second] [(.long q1)])) _
                        refine X0.ldc2Long hx hown (mvT hZ (hw _ (List.mem_of_getElem? (i := 17) rfl))) (g := (mkF m 106 #[.val (.long q1), .second] [(.long q1)])) rfl (hb hby own_d5_106) _ ?_
                        show Steps p.tables e below (s₁.setTop (mkF m 109 #[.val (.long q1), .second] [(.long (100000000000 : Int64)), (.long q1)])) _
                        refine XS.lcmp X0.here hx rfl (hb hby own_d5_109) rfl ?_
                        show Steps p.tables e below (s₁.setTop (mkF m 110 #[.val (.long q1), .second] [(.int (lcmpW q1 (100000000000 : Int64)))])) _
                        by_cases hq10 : q1 < (100000000000 : Int64)
                        · refine XS.ifNo X0.here hx rfl (hb hby own_d5_110) rfl ((if0 _ _).trans (tlt ((lw_lt _ _).mpr hq10)).2.1) ?_
                          show Steps p.tables e below (s₁.setTop (mkF m 113 #[.val (.long q1), .second] [])) _
                          refine XS.bipush X0.here hx rfl (hb hby own_d5_113) ?_
                          show Steps p.tables e below (s₁.setTop (mkF m 115 #[.val (.long q1), .second] [(.int (11 : Int32))])) _
                          have hd : own_dig q1 = (11 : Int32) := by simp only [own_dig, hq0, hq1, hq2, hq3, hq4, hq5, hq6, hq7, hq8, hq9, hq10, if_true, if_false]
                          rw [hd] at hr
                          exact retI X0 hx Bd.returns (hb hby own_d5_115) hr
                        · skip
                          refine XS.ifYes X0.here hx rfl (pc0 := 110) (pc' := 116) rfl (hb hby own_d5_110) rfl ((if0 _ _).trans (flt (fun q => hq10 ((lw_lt _ _).mp q))).2.1) (by decide) (by decide) ?_
                          show Steps p.tables e below (s₁.setTop (mkF m 116 #[.val (.long q1), .second] [])) _
                          refine XS.lloadN X0.here hx rfl (hb hby own_d5_116) rfl ?_
                          show Steps p.tables e below (s₁.setTop (mkF m 117 #[.val (.long q1), .second] [(.long q1)])) _
                          refine X0.ldc2Long hx hown (mvT hZ (hw _ (List.mem_of_getElem? (i := 18) rfl))) (g := (mkF m 117 #[.val (.long q1), .second] [(.long q1)])) rfl (hb hby own_d5_117) _ ?_
                          show Steps p.tables e below (s₁.setTop (mkF m 120 #[.val (.long q1), .second] [(.long (1000000000000 : Int64)), (.long q1)])) _
                          refine XS.lcmp X0.here hx rfl (hb hby own_d5_120) rfl ?_
                          show Steps p.tables e below (s₁.setTop (mkF m 121 #[.val (.long q1), .second] [(.int (lcmpW q1 (1000000000000 : Int64)))])) _
                          by_cases hq11 : q1 < (1000000000000 : Int64)
                          · refine XS.ifNo X0.here hx rfl (hb hby own_d5_121) rfl ((if0 _ _).trans (tlt ((lw_lt _ _).mpr hq11)).2.1) ?_
                            show Steps p.tables e below (s₁.setTop (mkF m 124 #[.val (.long q1), .second] [])) _
                            refine XS.bipush X0.here hx rfl (hb hby own_d5_124) ?_
                            show Steps p.tables e below (s₁.setTop (mkF m 126 #[.val (.long q1), .second] [(.int (12 : Int32))])) _
                            have hd : own_dig q1 = (12 : Int32) := by simp only [own_dig, hq0, hq1, hq2, hq3, hq4, hq5, hq6, hq7, hq8, hq9, hq10, hq11, if_true, if_false]
                            rw [hd] at hr
                            exact retI X0 hx Bd.returns (hb hby own_d5_126) hr
                          · skip
                            refine XS.ifYes X0.here hx rfl (pc0 := 121) (pc' := 127) rfl (hb hby own_d5_121) rfl ((if0 _ _).trans (flt (fun q => hq11 ((lw_lt _ _).mp q))).2.1) (by decide) (by decide) ?_
                            show Steps p.tables e below (s₁.setTop (mkF m 127 #[.val (.long q1), .second] [])) _
                            refine XS.lloadN X0.here hx rfl (hb hby own_d5_127) rfl ?_
                            show Steps p.tables e below (s₁.setTop (mkF m 128 #[.val (.long q1), .second] [(.long q1)])) _
                            refine X0.ldc2Long hx hown (mvT hZ (hw _ (List.mem_of_getElem? (i := 19) rfl))) (g := (mkF m 128 #[.val (.long q1), .second] [(.long q1)])) rfl (hb hby own_d5_128) _ ?_
                            show Steps p.tables e below (s₁.setTop (mkF m 131 #[.val (.long q1), .second] [(.long (10000000000000 : Int64)), (.long q1)])) _
                            refine XS.lcmp X0.here hx rfl (hb hby own_d5_131) rfl ?_
                            show Steps p.tables e below (s₁.setTop (mkF m 132 #[.val (.long q1), .second] [(.int (lcmpW q1 (10000000000000 : Int64)))])) _
                            by_cases hq12 : q1 < (10000000000000 : Int64)
                            · refine XS.ifNo X0.here hx rfl (hb hby own_d5_132) rfl ((if0 _ _).trans (tlt ((lw_lt _ _).mpr hq12)).2.1) ?_
                              show Steps p.tables e below (s₁.setTop (mkF m 135 #[.val (.long q1), .second] [])) _
                              refine XS.bipush X0.here hx rfl (hb hby own_d5_135) ?_
                              show Steps p.tables e below (s₁.setTop (mkF m 137 #[.val (.long q1), .second] [(.int (13 : Int32))])) _
                              have hd : own_dig q1 = (13 : Int32) := by simp only [own_dig, hq0, hq1, hq2, hq3, hq4, hq5, hq6, hq7, hq8, hq9, hq10, hq11, hq12, if_true, if_false]
                              rw [hd] at hr
                              exact retI X0 hx Bd.returns (hb hby own_d5_137) hr
                            · skip
                              refine XS.ifYes X0.here hx rfl (pc0 := 132) (pc' := 138) rfl (hb hby own_d5_132) rfl ((if0 _ _).trans (flt (fun q => hq12 ((lw_lt _ _).mp q))).2.1) (by decide) (by decide) ?_
                              show Steps p.tables e below (s₁.setTop (mkF m 138 #[.val (.long q1), .second] [])) _
                              refine XS.lloadN X0.here hx rfl (hb hby own_d5_138) rfl ?_
                              show Steps p.tables e below (s₁.setTop (mkF m 139 #[.val (.long q1), .second] [(.long q1)])) _
                              refine X0.ldc2Long hx hown (mvT hZ (hw _ (List.mem_of_getElem? (i := 20) rfl))) (g := (mkF m 139 #[.val (.long q1), .second] [(.long q1)])) rfl (hb hby own_d5_139) _ ?_
                              show Steps p.tables e below (s₁.setTop (mkF m 142 #[.val (.long q1), .second] [(.long (100000000000000 : Int64)), (.long q1)])) _
                              refine XS.lcmp X0.here hx rfl (hb hby own_d5_142) rfl ?_
                              show Steps p.tables e below (s₁.setTop (mkF m 143 #[.val (.long q1), .second] [(.int (lcmpW q1 (100000000000000 : Int64)))])) _
                              by_cases hq13 : q1 < (100000000000000 : Int64)
                              · refine XS.ifNo X0.here hx rfl (hb hby own_d5_143) rfl ((if0 _ _).trans (tlt ((lw_lt _ _).mpr hq13)).2.1) ?_
                                show Steps p.tables e below (s₁.setTop (mkF m 146 #[.val (.long q1), .second] [])) _
                                refine XS.bipush X0.here hx rfl (hb hby own_d5_146) ?_
                                show Steps p.tables e below (s₁.setTop (mkF m 148 #[.val (.long q1), .second] [(.int (14 : Int32))])) _
                                have hd : own_dig q1 = (14 : Int32) := by simp only [own_dig, hq0, hq1, hq2, hq3, hq4, hq5, hq6, hq7, hq8, hq9, hq10, hq11, hq12, hq13, if_true, if_false]
                                rw [hd] at hr
                                exact retI X0 hx Bd.returns (hb hby own_d5_148) hr
                              · skip
                                refine XS.ifYes X0.here hx rfl (pc0 := 143) (pc' := 149) rfl (hb hby own_d5_143) rfl ((if0 _ _).trans (flt (fun q => hq13 ((lw_lt _ _).mp q))).2.1) (by decide) (by decide) ?_
                                show Steps p.tables e below (s₁.setTop (mkF m 149 #[.val (.long q1), .second] [])) _
                                refine XS.lloadN X0.here hx rfl (hb hby own_d5_149) rfl ?_
                                show Steps p.tables e below (s₁.setTop (mkF m 150 #[.val (.long q1), .second] [(.long q1)])) _
                                refine X0.ldc2Long hx hown (mvT hZ (hw _ (List.mem_of_getElem? (i := 21) rfl))) (g := (mkF m 150 #[.val (.long q1), .second] [(.long q1)])) rfl (hb hby own_d5_150) _ ?_
                                show Steps p.tables e below (s₁.setTop (mkF m 153 #[.val (.long q1), .second] [(.long (1000000000000000 : Int64)), (.long q1)])) _
                                refine XS.lcmp X0.here hx rfl (hb hby own_d5_153) rfl ?_
                                show Steps p.tables e below (s₁.setTop (mkF m 154 #[.val (.long q1), .second] [(.int (lcmpW q1 (1000000000000000 : Int64)))])) _
                                by_cases hq14 : q1 < (1000000000000000 : Int64)
                                · refine XS.ifNo X0.here hx rfl (hb hby own_d5_154) rfl ((if0 _ _).trans (tlt ((lw_lt _ _).mpr hq14)).2.1) ?_
                                  show Steps p.tables e below (s₁.setTop (mkF m 157 #[.val (.long q1), .second] [])) _
                                  refine XS.bipush X0.here hx rfl (hb hby own_d5_157) ?_
                                  show Steps p.tables e below (s₁.setTop (mkF m 159 #[.val (.long q1), .second] [(.int (15 : Int32))])) _
                                  have hd : own_dig q1 = (15 : Int32) := by simp only [own_dig, hq0, hq1, hq2, hq3, hq4, hq5, hq6, hq7, hq8, hq9, hq10, hq11, hq12, hq13, hq14, if_true, if_false]
                                  rw [hd] at hr
                                  exact retI X0 hx Bd.returns (hb hby own_d5_159) hr
                                · skip
                                  refine XS.ifYes X0.here hx rfl (pc0 := 154) (pc' := 160) rfl (hb hby own_d5_154) rfl ((if0 _ _).trans (flt (fun q => hq14 ((lw_lt _ _).mp q))).2.1) (by decide) (by decide) ?_
                                  show Steps p.tables e below (s₁.setTop (mkF m 160 #[.val (.long q1), .second] [])) _
                                  refine XS.lloadN X0.here hx rfl (hb hby own_d5_160) rfl ?_
                                  show Steps p.tables e below (s₁.setTop (mkF m 161 #[.val (.long q1), .second] [(.long q1)])) _
                                  refine X0.ldc2Long hx hown (mvT hZ (hw _ (List.mem_of_getElem? (i := 22) rfl))) (g := (mkF m 161 #[.val (.long q1), .second] [(.long q1)])) rfl (hb hby own_d5_161) _ ?_
                                  show Steps p.tables e below (s₁.setTop (mkF m 164 #[.val (.long q1), .second] [(.long (10000000000000000 : Int64)), (.long q1)])) _
                                  refine XS.lcmp X0.here hx rfl (hb hby own_d5_164) rfl ?_
                                  show Steps p.tables e below (s₁.setTop (mkF m 165 #[.val (.long q1), .second] [(.int (lcmpW q1 (10000000000000000 : Int64)))])) _
                                  by_cases hq15 : q1 < (10000000000000000 : Int64)
                                  · refine XS.ifNo X0.here hx rfl (hb hby own_d5_165) rfl ((if0 _ _).trans (tlt ((lw_lt _ _).mpr hq15)).2.1) ?_
                                    show Steps p.tables e below (s₁.setTop (mkF m 168 #[.val (.long q1), .second] [])) _
                                    refine XS.bipush X0.here hx rfl (hb hby own_d5_168) ?_
                                    show Steps p.tables e below (s₁.setTop (mkF m 170 #[.val (.long q1), .second] [(.int (16 : Int32))])) _
                                    have hd : own_dig q1 = (16 : Int32) := by simp only [own_dig, hq0, hq1, hq2, hq3, hq4, hq5, hq6, hq7, hq8, hq9, hq10, hq11, hq12, hq13, hq14, hq15, if_true, if_false]
                                    rw [hd] at hr
                                    exact retI X0 hx Bd.returns (hb hby own_d5_170) hr
                                  · skip
                                    refine XS.ifYes X0.here hx rfl (pc0 := 165) (pc' := 171) rfl (hb hby own_d5_165) rfl ((if0 _ _).trans (flt (fun q => hq15 ((lw_lt _ _).mp q))).2.1) (by decide) (by decide) ?_
                                    show Steps p.tables e below (s₁.setTop (mkF m 171 #[.val (.long q1), .second] [])) _
                                    refine XS.lloadN X0.here hx rfl (hb hby own_d5_171) rfl ?_
                                    show Steps p.tables e below (s₁.setTop (mkF m 172 #[.val (.long q1), .second] [(.long q1)])) _
                                    refine X0.ldc2Long hx hown (mvT hZ (hw _ (List.mem_of_getElem? (i := 23) rfl))) (g := (mkF m 172 #[.val (.long q1), .second] [(.long q1)])) rfl (hb hby own_d5_172) _ ?_
                                    show Steps p.tables e below (s₁.setTop (mkF m 175 #[.val (.long q1), .second] [(.long (100000000000000000 : Int64)), (.long q1)])) _
                                    refine XS.lcmp X0.here hx rfl (hb hby own_d5_175) rfl ?_
                                    show Steps p.tables e below (s₁.setTop (mkF m 176 #[.val (.long q1), .second] [(.int (lcmpW q1 (100000000000000000 : Int64)))])) _
                                    by_cases hq16 : q1 < (100000000000000000 : Int64)
                                    · refine XS.ifNo X0.here hx rfl (hb hby own_d5_176) rfl ((if0 _ _).trans (tlt ((lw_lt _ _).mpr hq16)).2.1) ?_
                                      show Steps p.tables e below (s₁.setTop (mkF m 179 #[.val (.long q1), .second] [])) _
                                      refine XS.bipush X0.here hx rfl (hb hby own_d5_179) ?_
                                      show Steps p.tables e below (s₁.setTop (mkF m 181 #[.val (.long q1), .second] [(.int (17 : Int32))])) _
                                      have hd : own_dig q1 = (17 : Int32) := by simp only [own_dig, hq0, hq1, hq2, hq3, hq4, hq5, hq6, hq7, hq8, hq9, hq10, hq11, hq12, hq13, hq14, hq15, hq16, if_true, if_false]
                                      rw [hd] at hr
                                      exact retI X0 hx Bd.returns (hb hby own_d5_181) hr
                                    · skip
                                      refine XS.ifYes X0.here hx rfl (pc0 := 176) (pc' := 182) rfl (hb hby own_d5_176) rfl ((if0 _ _).trans (flt (fun q => hq16 ((lw_lt _ _).mp q))).2.1) (by decide) (by decide) ?_
                                      show Steps p.tables e below (s₁.setTop (mkF m 182 #[.val (.long q1), .second] [])) _
                                      refine XS.lloadN X0.here hx rfl (hb hby own_d5_182) rfl ?_
                                      show Steps p.tables e below (s₁.setTop (mkF m 183 #[.val (.long q1), .second] [(.long q1)])) _
                                      refine X0.ldc2Long hx hown (mvT hZ (hw _ (List.mem_of_getElem? (i := 24) rfl))) (g := (mkF m 183 #[.val (.long q1), .second] [(.long q1)])) rfl (hb hby own_d5_183) _ ?_
                                      show Steps p.tables e below (s₁.setTop (mkF m 186 #[.val (.long q1), .second] [(.long (1000000000000000000 : Int64)), (.long q1)])) _
                                      refine XS.lcmp X0.here hx rfl (hb hby own_d5_186) rfl ?_
                                      show Steps p.tables e below (s₁.setTop (mkF m 187 #[.val (.long q1), .second] [(.int (lcmpW q1 (1000000000000000000 : Int64)))])) _
                                      by_cases hq17 : q1 < (1000000000000000000 : Int64)
                                      · refine XS.ifNo X0.here hx rfl (hb hby own_d5_187) rfl ((if0 _ _).trans (tlt ((lw_lt _ _).mpr hq17)).2.1) ?_
                                        show Steps p.tables e below (s₁.setTop (mkF m 190 #[.val (.long q1), .second] [])) _
                                        refine XS.bipush X0.here hx rfl (hb hby own_d5_190) ?_
                                        show Steps p.tables e below (s₁.setTop (mkF m 192 #[.val (.long q1), .second] [(.int (18 : Int32))])) _
                                        have hd : own_dig q1 = (18 : Int32) := by simp only [own_dig, hq0, hq1, hq2, hq3, hq4, hq5, hq6, hq7, hq8, hq9, hq10, hq11, hq12, hq13, hq14, hq15, hq16, hq17, if_true, if_false]
                                        rw [hd] at hr
                                        exact retI X0 hx Bd.returns (hb hby own_d5_192) hr
                                      · skip
                                        refine XS.ifYes X0.here hx rfl (pc0 := 187) (pc' := 193) rfl (hb hby own_d5_187) rfl ((if0 _ _).trans (flt (fun q => hq17 ((lw_lt _ _).mp q))).2.1) (by decide) (by decide) ?_
                                        show Steps p.tables e below (s₁.setTop (mkF m 193 #[.val (.long q1), .second] [])) _
                                        refine XS.bipush X0.here hx rfl (hb hby own_d5_193) ?_
                                        show Steps p.tables e below (s₁.setTop (mkF m 195 #[.val (.long q1), .second] [(.int (19 : Int32))])) _
                                        have hd : own_dig q1 = (19 : Int32) := by simp only [own_dig, hq0, hq1, hq2, hq3, hq4, hq5, hq6, hq7, hq8, hq9, hq10, hq11, hq12, hq13, hq14, hq15, hq16, hq17, if_false]
                                        rw [hd] at hr
                                        exact retI X0 hx Bd.returns (hb hby own_d5_195) hr
  · show own_P (.int (own_dig q1)) h0 _ s₁.heap _
    rw [e0]
    exact ⟨rfl, rfl, rfl⟩
theorem own_dg1 {v : Int64} (a : (1 : Int) ≤ v.toInt) (b : v.toInt < (10 : Int)) : own_dig v = (1 : Int32) := by
  have e1 : v < (10 : Int64) := Int64.lt_iff_toInt_lt.mpr (by rw [show (10 : Int64).toInt = 10 from by decide]; exact b)
  simp only [own_dig, e1, if_true, if_false]
theorem own_dg2 {v : Int64} (a : (10 : Int) ≤ v.toInt) (b : v.toInt < (100 : Int)) : own_dig v = (2 : Int32) := by
  have e1 : ¬ (v < (10 : Int64)) := fun q => by
    have q' := Int64.lt_iff_toInt_lt.mp q
    rw [show (10 : Int64).toInt = 10 from by decide] at q'
    omega
  have e2 : v < (100 : Int64) := Int64.lt_iff_toInt_lt.mpr (by rw [show (100 : Int64).toInt = 100 from by decide]; exact b)
  simp only [own_dig, e1, e2, if_true, if_false]
theorem own_dg3 {v : Int64} (a : (100 : Int) ≤ v.toInt) (b : v.toInt < (1000 : Int)) : own_dig v = (3 : Int32) := by
  have e1 : ¬ (v < (10 : Int64)) := fun q => by
    have q' := Int64.lt_iff_toInt_lt.mp q
    rw [show (10 : Int64).toInt = 10 from by decide] at q'
    omega
  have e2 : ¬ (v < (100 : Int64)) := fun q => by
    have q' := Int64.lt_iff_toInt_lt.mp q
    rw [show (100 : Int64).toInt = 100 from by decide] at q'
    omega
  have e3 : v < (1000 : Int64) := Int64.lt_iff_toInt_lt.mpr (by rw [show (1000 : Int64).toInt = 1000 from by decide]; exact b)
  simp only [own_dig, e1, e2, e3, if_true, if_false]
theorem own_dg4 {v : Int64} (a : (1000 : Int) ≤ v.toInt) (b : v.toInt < (10000 : Int)) : own_dig v = (4 : Int32) := by
  have e1 : ¬ (v < (10 : Int64)) := fun q => by
    have q' := Int64.lt_iff_toInt_lt.mp q
    rw [show (10 : Int64).toInt = 10 from by decide] at q'
    omega
  have e2 : ¬ (v < (100 : Int64)) := fun q => by
    have q' := Int64.lt_iff_toInt_lt.mp q
    rw [show (100 : Int64).toInt = 100 from by decide] at q'
    omega
  have e3 : ¬ (v < (1000 : Int64)) := fun q => by
    have q' := Int64.lt_iff_toInt_lt.mp q
    rw [show (1000 : Int64).toInt = 1000 from by decide] at q'
    omega
  have e4 : v < (10000 : Int64) := Int64.lt_iff_toInt_lt.mpr (by rw [show (10000 : Int64).toInt = 10000 from by decide]; exact b)
  simp only [own_dig, e1, e2, e3, e4, if_true, if_false]
theorem own_dg5 {v : Int64} (a : (10000 : Int) ≤ v.toInt) (b : v.toInt < (100000 : Int)) : own_dig v = (5 : Int32) := by
  have e1 : ¬ (v < (10 : Int64)) := fun q => by
    have q' := Int64.lt_iff_toInt_lt.mp q
    rw [show (10 : Int64).toInt = 10 from by decide] at q'
    omega
  have e2 : ¬ (v < (100 : Int64)) := fun q => by
    have q' := Int64.lt_iff_toInt_lt.mp q
    rw [show (100 : Int64).toInt = 100 from by decide] at q'
    omega
  have e3 : ¬ (v < (1000 : Int64)) := fun q => by
    have q' := Int64.lt_iff_toInt_lt.mp q
    rw [show (1000 : Int64).toInt = 1000 from by decide] at q'
    omega
  have e4 : ¬ (v < (10000 : Int64)) := fun q => by
    have q' := Int64.lt_iff_toInt_lt.mp q
    rw [show (10000 : Int64).toInt = 10000 from by decide] at q'
    omega
  have e5 : v < (100000 : Int64) := Int64.lt_iff_toInt_lt.mpr (by rw [show (100000 : Int64).toInt = 100000 from by decide]; exact b)
  simp only [own_dig, e1, e2, e3, e4, e5, if_true, if_false]
theorem own_dg6 {v : Int64} (a : (100000 : Int) ≤ v.toInt) (b : v.toInt < (1000000 : Int)) : own_dig v = (6 : Int32) := by
  have e1 : ¬ (v < (10 : Int64)) := fun q => by
    have q' := Int64.lt_iff_toInt_lt.mp q
    rw [show (10 : Int64).toInt = 10 from by decide] at q'
    omega
  have e2 : ¬ (v < (100 : Int64)) := fun q => by
    have q' := Int64.lt_iff_toInt_lt.mp q
    rw [show (100 : Int64).toInt = 100 from by decide] at q'
    omega
  have e3 : ¬ (v < (1000 : Int64)) := fun q => by
    have q' := Int64.lt_iff_toInt_lt.mp q
    rw [show (1000 : Int64).toInt = 1000 from by decide] at q'
    omega
  have e4 : ¬ (v < (10000 : Int64)) := fun q => by
    have q' := Int64.lt_iff_toInt_lt.mp q
    rw [show (10000 : Int64).toInt = 10000 from by decide] at q'
    omega
  have e5 : ¬ (v < (100000 : Int64)) := fun q => by
    have q' := Int64.lt_iff_toInt_lt.mp q
    rw [show (100000 : Int64).toInt = 100000 from by decide] at q'
    omega
  have e6 : v < (1000000 : Int64) := Int64.lt_iff_toInt_lt.mpr (by rw [show (1000000 : Int64).toInt = 1000000 from by decide]; exact b)
  simp only [own_dig, e1, e2, e3, e4, e5, e6, if_true, if_false]
theorem own_dg7 {v : Int64} (a : (1000000 : Int) ≤ v.toInt) (b : v.toInt < (10000000 : Int)) : own_dig v = (7 : Int32) := by
  have e1 : ¬ (v < (10 : Int64)) := fun q => by
    have q' := Int64.lt_iff_toInt_lt.mp q
    rw [show (10 : Int64).toInt = 10 from by decide] at q'
    omega
  have e2 : ¬ (v < (100 : Int64)) := fun q => by
    have q' := Int64.lt_iff_toInt_lt.mp q
    rw [show (100 : Int64).toInt = 100 from by decide] at q'
    omega
  have e3 : ¬ (v < (1000 : Int64)) := fun q => by
    have q' := Int64.lt_iff_toInt_lt.mp q
    rw [show (1000 : Int64).toInt = 1000 from by decide] at q'
    omega
  have e4 : ¬ (v < (10000 : Int64)) := fun q => by
    have q' := Int64.lt_iff_toInt_lt.mp q
    rw [show (10000 : Int64).toInt = 10000 from by decide] at q'
    omega
  have e5 : ¬ (v < (100000 : Int64)) := fun q => by
    have q' := Int64.lt_iff_toInt_lt.mp q
    rw [show (100000 : Int64).toInt = 100000 from by decide] at q'
    omega
  have e6 : ¬ (v < (1000000 : Int64)) := fun q => by
    have q' := Int64.lt_iff_toInt_lt.mp q
    rw [show (1000000 : Int64).toInt = 1000000 from by decide] at q'
    omega
  have e7 : v < (10000000 : Int64) := Int64.lt_iff_toInt_lt.mpr (by rw [show (10000000 : Int64).toInt = 10000000 from by decide]; exact b)
  simp only [own_dig, e1, e2, e3, e4, e5, e6, e7, if_true, if_false]
theorem own_dg8 {v : Int64} (a : (10000000 : Int) ≤ v.toInt) (b : v.toInt < (100000000 : Int)) : own_dig v = (8 : Int32) := by
  have e1 : ¬ (v < (10 : Int64)) := fun q => by
    have q' := Int64.lt_iff_toInt_lt.mp q
    rw [show (10 : Int64).toInt = 10 from by decide] at q'
    omega
  have e2 : ¬ (v < (100 : Int64)) := fun q => by
    have q' := Int64.lt_iff_toInt_lt.mp q
    rw [show (100 : Int64).toInt = 100 from by decide] at q'
    omega
  have e3 : ¬ (v < (1000 : Int64)) := fun q => by
    have q' := Int64.lt_iff_toInt_lt.mp q
    rw [show (1000 : Int64).toInt = 1000 from by decide] at q'
    omega
  have e4 : ¬ (v < (10000 : Int64)) := fun q => by
    have q' := Int64.lt_iff_toInt_lt.mp q
    rw [show (10000 : Int64).toInt = 10000 from by decide] at q'
    omega
  have e5 : ¬ (v < (100000 : Int64)) := fun q => by
    have q' := Int64.lt_iff_toInt_lt.mp q
    rw [show (100000 : Int64).toInt = 100000 from by decide] at q'
    omega
  have e6 : ¬ (v < (1000000 : Int64)) := fun q => by
    have q' := Int64.lt_iff_toInt_lt.mp q
    rw [show (1000000 : Int64).toInt = 1000000 from by decide] at q'
    omega
  have e7 : ¬ (v < (10000000 : Int64)) := fun q => by
    have q' := Int64.lt_iff_toInt_lt.mp q
    rw [show (10000000 : Int64).toInt = 10000000 from by decide] at q'
    omega
  have e8 : v < (100000000 : Int64) := Int64.lt_iff_toInt_lt.mpr (by rw [show (100000000 : Int64).toInt = 100000000 from by decide]; exact b)
  simp only [own_dig, e1, e2, e3, e4, e5, e6, e7, e8, if_true, if_false]
theorem own_dg9 {v : Int64} (a : (100000000 : Int) ≤ v.toInt) (b : v.toInt < (1000000000 : Int)) : own_dig v = (9 : Int32) := by
  have e1 : ¬ (v < (10 : Int64)) := fun q => by
    have q' := Int64.lt_iff_toInt_lt.mp q
    rw [show (10 : Int64).toInt = 10 from by decide] at q'
    omega
  have e2 : ¬ (v < (100 : Int64)) := fun q => by
    have q' := Int64.lt_iff_toInt_lt.mp q
    rw [show (100 : Int64).toInt = 100 from by decide] at q'
    omega
  have e3 : ¬ (v < (1000 : Int64)) := fun q => by
    have q' := Int64.lt_iff_toInt_lt.mp q
    rw [show (1000 : Int64).toInt = 1000 from by decide] at q'
    omega
  have e4 : ¬ (v < (10000 : Int64)) := fun q => by
    have q' := Int64.lt_iff_toInt_lt.mp q
    rw [show (10000 : Int64).toInt = 10000 from by decide] at q'
    omega
  have e5 : ¬ (v < (100000 : Int64)) := fun q => by
    have q' := Int64.lt_iff_toInt_lt.mp q
    rw [show (100000 : Int64).toInt = 100000 from by decide] at q'
    omega
  have e6 : ¬ (v < (1000000 : Int64)) := fun q => by
    have q' := Int64.lt_iff_toInt_lt.mp q
    rw [show (1000000 : Int64).toInt = 1000000 from by decide] at q'
    omega
  have e7 : ¬ (v < (10000000 : Int64)) := fun q => by
    have q' := Int64.lt_iff_toInt_lt.mp q
    rw [show (10000000 : Int64).toInt = 10000000 from by decide] at q'
    omega
  have e8 : ¬ (v < (100000000 : Int64)) := fun q => by
    have q' := Int64.lt_iff_toInt_lt.mp q
    rw [show (100000000 : Int64).toInt = 100000000 from by decide] at q'
    omega
  have e9 : v < (1000000000 : Int64) := Int64.lt_iff_toInt_lt.mpr (by rw [show (1000000000 : Int64).toInt = 1000000000 from by decide]; exact b)
  simp only [own_dig, e1, e2, e3, e4, e5, e6, e7, e8, e9, if_true, if_false]
theorem own_dg10 {v : Int64} (a : (1000000000 : Int) ≤ v.toInt) (b : v.toInt < (10000000000 : Int)) : own_dig v = (10 : Int32) := by
  have e1 : ¬ (v < (10 : Int64)) := fun q => by
    have q' := Int64.lt_iff_toInt_lt.mp q
    rw [show (10 : Int64).toInt = 10 from by decide] at q'
    omega
  have e2 : ¬ (v < (100 : Int64)) := fun q => by
    have q' := Int64.lt_iff_toInt_lt.mp q
    rw [show (100 : Int64).toInt = 100 from by decide] at q'
    omega
  have e3 : ¬ (v < (1000 : Int64)) := fun q => by
    have q' := Int64.lt_iff_toInt_lt.mp q
    rw [show (1000 : Int64).toInt = 1000 from by decide] at q'
    omega
  have e4 : ¬ (v < (10000 : Int64)) := fun q => by
    have q' := Int64.lt_iff_toInt_lt.mp q
    rw [show (10000 : Int64).toInt = 10000 from by decide] at q'
    omega
  have e5 : ¬ (v < (100000 : Int64)) := fun q => by
    have q' := Int64.lt_iff_toInt_lt.mp q
    rw [show (100000 : Int64).toInt = 100000 from by decide] at q'
    omega
  have e6 : ¬ (v < (1000000 : Int64)) := fun q => by
    have q' := Int64.lt_iff_toInt_lt.mp q
    rw [show (1000000 : Int64).toInt = 1000000 from by decide] at q'
    omega
  have e7 : ¬ (v < (10000000 : Int64)) := fun q => by
    have q' := Int64.lt_iff_toInt_lt.mp q
    rw [show (10000000 : Int64).toInt = 10000000 from by decide] at q'
    omega
  have e8 : ¬ (v < (100000000 : Int64)) := fun q => by
    have q' := Int64.lt_iff_toInt_lt.mp q
    rw [show (100000000 : Int64).toInt = 100000000 from by decide] at q'
    omega
  have e9 : ¬ (v < (1000000000 : Int64)) := fun q => by
    have q' := Int64.lt_iff_toInt_lt.mp q
    rw [show (1000000000 : Int64).toInt = 1000000000 from by decide] at q'
    omega
  have e10 : v < (10000000000 : Int64) := Int64.lt_iff_toInt_lt.mpr (by rw [show (10000000000 : Int64).toInt = 10000000000 from by decide]; exact b)
  simp only [own_dig, e1, e2, e3, e4, e5, e6, e7, e8, e9, e10, if_true, if_false]
theorem own_dg11 {v : Int64} (a : (10000000000 : Int) ≤ v.toInt) (b : v.toInt < (100000000000 : Int)) : own_dig v = (11 : Int32) := by
  have e1 : ¬ (v < (10 : Int64)) := fun q => by
    have q' := Int64.lt_iff_toInt_lt.mp q
    rw [show (10 : Int64).toInt = 10 from by decide] at q'
    omega
  have e2 : ¬ (v < (100 : Int64)) := fun q => by
    have q' := Int64.lt_iff_toInt_lt.mp q
    rw [show (100 : Int64).toInt = 100 from by decide] at q'
    omega
  have e3 : ¬ (v < (1000 : Int64)) := fun q => by
    have q' := Int64.lt_iff_toInt_lt.mp q
    rw [show (1000 : Int64).toInt = 1000 from by decide] at q'
    omega
  have e4 : ¬ (v < (10000 : Int64)) := fun q => by
    have q' := Int64.lt_iff_toInt_lt.mp q
    rw [show (10000 : Int64).toInt = 10000 from by decide] at q'
    omega
  have e5 : ¬ (v < (100000 : Int64)) := fun q => by
    have q' := Int64.lt_iff_toInt_lt.mp q
    rw [show (100000 : Int64).toInt = 100000 from by decide] at q'
    omega
  have e6 : ¬ (v < (1000000 : Int64)) := fun q => by
    have q' := Int64.lt_iff_toInt_lt.mp q
    rw [show (1000000 : Int64).toInt = 1000000 from by decide] at q'
    omega
  have e7 : ¬ (v < (10000000 : Int64)) := fun q => by
    have q' := Int64.lt_iff_toInt_lt.mp q
    rw [show (10000000 : Int64).toInt = 10000000 from by decide] at q'
    omega
  have e8 : ¬ (v < (100000000 : Int64)) := fun q => by
    have q' := Int64.lt_iff_toInt_lt.mp q
    rw [show (100000000 : Int64).toInt = 100000000 from by decide] at q'
    omega
  have e9 : ¬ (v < (1000000000 : Int64)) := fun q => by
    have q' := Int64.lt_iff_toInt_lt.mp q
    rw [show (1000000000 : Int64).toInt = 1000000000 from by decide] at q'
    omega
  have e10 : ¬ (v < (10000000000 : Int64)) := fun q => by
    have q' := Int64.lt_iff_toInt_lt.mp q
    rw [show (10000000000 : Int64).toInt = 10000000000 from by decide] at q'
    omega
  have e11 : v < (100000000000 : Int64) := Int64.lt_iff_toInt_lt.mpr (by rw [show (100000000000 : Int64).toInt = 100000000000 from by decide]; exact b)
  simp only [own_dig, e1, e2, e3, e4, e5, e6, e7, e8, e9, e10, e11, if_true, if_false]
theorem own_dg12 {v : Int64} (a : (100000000000 : Int) ≤ v.toInt) (b : v.toInt < (1000000000000 : Int)) : own_dig v = (12 : Int32) := by
  have e1 : ¬ (v < (10 : Int64)) := fun q => by
    have q' := Int64.lt_iff_toInt_lt.mp q
    rw [show (10 : Int64).toInt = 10 from by decide] at q'
    omega
  have e2 : ¬ (v < (100 : Int64)) := fun q => by
    have q' := Int64.lt_iff_toInt_lt.mp q
    rw [show (100 : Int64).toInt = 100 from by decide] at q'
    omega
  have e3 : ¬ (v < (1000 : Int64)) := fun q => by
    have q' := Int64.lt_iff_toInt_lt.mp q
    rw [show (1000 : Int64).toInt = 1000 from by decide] at q'
    omega
  have e4 : ¬ (v < (10000 : Int64)) := fun q => by
    have q' := Int64.lt_iff_toInt_lt.mp q
    rw [show (10000 : Int64).toInt = 10000 from by decide] at q'
    omega
  have e5 : ¬ (v < (100000 : Int64)) := fun q => by
    have q' := Int64.lt_iff_toInt_lt.mp q
    rw [show (100000 : Int64).toInt = 100000 from by decide] at q'
    omega
  have e6 : ¬ (v < (1000000 : Int64)) := fun q => by
    have q' := Int64.lt_iff_toInt_lt.mp q
    rw [show (1000000 : Int64).toInt = 1000000 from by decide] at q'
    omega
  have e7 : ¬ (v < (10000000 : Int64)) := fun q => by
    have q' := Int64.lt_iff_toInt_lt.mp q
    rw [show (10000000 : Int64).toInt = 10000000 from by decide] at q'
    omega
  have e8 : ¬ (v < (100000000 : Int64)) := fun q => by
    have q' := Int64.lt_iff_toInt_lt.mp q
    rw [show (100000000 : Int64).toInt = 100000000 from by decide] at q'
    omega
  have e9 : ¬ (v < (1000000000 : Int64)) := fun q => by
    have q' := Int64.lt_iff_toInt_lt.mp q
    rw [show (1000000000 : Int64).toInt = 1000000000 from by decide] at q'
    omega
  have e10 : ¬ (v < (10000000000 : Int64)) := fun q => by
    have q' := Int64.lt_iff_toInt_lt.mp q
    rw [show (10000000000 : Int64).toInt = 10000000000 from by decide] at q'
    omega
  have e11 : ¬ (v < (100000000000 : Int64)) := fun q => by
    have q' := Int64.lt_iff_toInt_lt.mp q
    rw [show (100000000000 : Int64).toInt = 100000000000 from by decide] at q'
    omega
  have e12 : v < (1000000000000 : Int64) := Int64.lt_iff_toInt_lt.mpr (by rw [show (1000000000000 : Int64).toInt = 1000000000000 from by decide]; exact b)
  simp only [own_dig, e1, e2, e3, e4, e5, e6, e7, e8, e9, e10, e11, e12, if_true, if_false]
theorem own_dg13 {v : Int64} (a : (1000000000000 : Int) ≤ v.toInt) (b : v.toInt < (10000000000000 : Int)) : own_dig v = (13 : Int32) := by
  have e1 : ¬ (v < (10 : Int64)) := fun q => by
    have q' := Int64.lt_iff_toInt_lt.mp q
    rw [show (10 : Int64).toInt = 10 from by decide] at q'
    omega
  have e2 : ¬ (v < (100 : Int64)) := fun q => by
    have q' := Int64.lt_iff_toInt_lt.mp q
    rw [show (100 : Int64).toInt = 100 from by decide] at q'
    omega
  have e3 : ¬ (v < (1000 : Int64)) := fun q => by
    have q' := Int64.lt_iff_toInt_lt.mp q
    rw [show (1000 : Int64).toInt = 1000 from by decide] at q'
    omega
  have e4 : ¬ (v < (10000 : Int64)) := fun q => by
    have q' := Int64.lt_iff_toInt_lt.mp q
    rw [show (10000 : Int64).toInt = 10000 from by decide] at q'
    omega
  have e5 : ¬ (v < (100000 : Int64)) := fun q => by
    have q' := Int64.lt_iff_toInt_lt.mp q
    rw [show (100000 : Int64).toInt = 100000 from by decide] at q'
    omega
  have e6 : ¬ (v < (1000000 : Int64)) := fun q => by
    have q' := Int64.lt_iff_toInt_lt.mp q
    rw [show (1000000 : Int64).toInt = 1000000 from by decide] at q'
    omega
  have e7 : ¬ (v < (10000000 : Int64)) := fun q => by
    have q' := Int64.lt_iff_toInt_lt.mp q
    rw [show (10000000 : Int64).toInt = 10000000 from by decide] at q'
    omega
  have e8 : ¬ (v < (100000000 : Int64)) := fun q => by
    have q' := Int64.lt_iff_toInt_lt.mp q
    rw [show (100000000 : Int64).toInt = 100000000 from by decide] at q'
    omega
  have e9 : ¬ (v < (1000000000 : Int64)) := fun q => by
    have q' := Int64.lt_iff_toInt_lt.mp q
    rw [show (1000000000 : Int64).toInt = 1000000000 from by decide] at q'
    omega
  have e10 : ¬ (v < (10000000000 : Int64)) := fun q => by
    have q' := Int64.lt_iff_toInt_lt.mp q
    rw [show (10000000000 : Int64).toInt = 10000000000 from by decide] at q'
    omega
  have e11 : ¬ (v < (100000000000 : Int64)) := fun q => by
    have q' := Int64.lt_iff_toInt_lt.mp q
    rw [show (100000000000 : Int64).toInt = 100000000000 from by decide] at q'
    omega
  have e12 : ¬ (v < (1000000000000 : Int64)) := fun q => by
    have q' := Int64.lt_iff_toInt_lt.mp q
    rw [show (1000000000000 : Int64).toInt = 1000000000000 from by decide] at q'
    omega
  have e13 : v < (10000000000000 : Int64) := Int64.lt_iff_toInt_lt.mpr (by rw [show (10000000000000 : Int64).toInt = 10000000000000 from by decide]; exact b)
  simp only [own_dig, e1, e2, e3, e4, e5, e6, e7, e8, e9, e10, e11, e12, e13, if_true, if_false]
theorem own_dg14 {v : Int64} (a : (10000000000000 : Int) ≤ v.toInt) (b : v.toInt < (100000000000000 : Int)) : own_dig v = (14 : Int32) := by
  have e1 : ¬ (v < (10 : Int64)) := fun q => by
    have q' := Int64.lt_iff_toInt_lt.mp q
    rw [show (10 : Int64).toInt = 10 from by decide] at q'
    omega
  have e2 : ¬ (v < (100 : Int64)) := fun q => by
    have q' := Int64.lt_iff_toInt_lt.mp q
    rw [show (100 : Int64).toInt = 100 from by decide] at q'
    omega
  have e3 : ¬ (v < (1000 : Int64)) := fun q => by
    have q' := Int64.lt_iff_toInt_lt.mp q
    rw [show (1000 : Int64).toInt = 1000 from by decide] at q'
    omega
  have e4 : ¬ (v < (10000 : Int64)) := fun q => by
    have q' := Int64.lt_iff_toInt_lt.mp q
    rw [show (10000 : Int64).toInt = 10000 from by decide] at q'
    omega
  have e5 : ¬ (v < (100000 : Int64)) := fun q => by
    have q' := Int64.lt_iff_toInt_lt.mp q
    rw [show (100000 : Int64).toInt = 100000 from by decide] at q'
    omega
  have e6 : ¬ (v < (1000000 : Int64)) := fun q => by
    have q' := Int64.lt_iff_toInt_lt.mp q
    rw [show (1000000 : Int64).toInt = 1000000 from by decide] at q'
    omega
  have e7 : ¬ (v < (10000000 : Int64)) := fun q => by
    have q' := Int64.lt_iff_toInt_lt.mp q
    rw [show (10000000 : Int64).toInt = 10000000 from by decide] at q'
    omega
  have e8 : ¬ (v < (100000000 : Int64)) := fun q => by
    have q' := Int64.lt_iff_toInt_lt.mp q
    rw [show (100000000 : Int64).toInt = 100000000 from by decide] at q'
    omega
  have e9 : ¬ (v < (1000000000 : Int64)) := fun q => by
    have q' := Int64.lt_iff_toInt_lt.mp q
    rw [show (1000000000 : Int64).toInt = 1000000000 from by decide] at q'
    omega
  have e10 : ¬ (v < (10000000000 : Int64)) := fun q => by
    have q' := Int64.lt_iff_toInt_lt.mp q
    rw [show (10000000000 : Int64).toInt = 10000000000 from by decide] at q'
    omega
  have e11 : ¬ (v < (100000000000 : Int64)) := fun q => by
    have q' := Int64.lt_iff_toInt_lt.mp q
    rw [show (100000000000 : Int64).toInt = 100000000000 from by decide] at q'
    omega
  have e12 : ¬ (v < (1000000000000 : Int64)) := fun q => by
    have q' := Int64.lt_iff_toInt_lt.mp q
    rw [show (1000000000000 : Int64).toInt = 1000000000000 from by decide] at q'
    omega
  have e13 : ¬ (v < (10000000000000 : Int64)) := fun q => by
    have q' := Int64.lt_iff_toInt_lt.mp q
    rw [show (10000000000000 : Int64).toInt = 10000000000000 from by decide] at q'
    omega
  have e14 : v < (100000000000000 : Int64) := Int64.lt_iff_toInt_lt.mpr (by rw [show (100000000000000 : Int64).toInt = 100000000000000 from by decide]; exact b)
  simp only [own_dig, e1, e2, e3, e4, e5, e6, e7, e8, e9, e10, e11, e12, e13, e14, if_true, if_false]
theorem own_dg15 {v : Int64} (a : (100000000000000 : Int) ≤ v.toInt) (b : v.toInt < (1000000000000000 : Int)) : own_dig v = (15 : Int32) := by
  have e1 : ¬ (v < (10 : Int64)) := fun q => by
    have q' := Int64.lt_iff_toInt_lt.mp q
    rw [show (10 : Int64).toInt = 10 from by decide] at q'
    omega
  have e2 : ¬ (v < (100 : Int64)) := fun q => by
    have q' := Int64.lt_iff_toInt_lt.mp q
    rw [show (100 : Int64).toInt = 100 from by decide] at q'
    omega
  have e3 : ¬ (v < (1000 : Int64)) := fun q => by
    have q' := Int64.lt_iff_toInt_lt.mp q
    rw [show (1000 : Int64).toInt = 1000 from by decide] at q'
    omega
  have e4 : ¬ (v < (10000 : Int64)) := fun q => by
    have q' := Int64.lt_iff_toInt_lt.mp q
    rw [show (10000 : Int64).toInt = 10000 from by decide] at q'
    omega
  have e5 : ¬ (v < (100000 : Int64)) := fun q => by
    have q' := Int64.lt_iff_toInt_lt.mp q
    rw [show (100000 : Int64).toInt = 100000 from by decide] at q'
    omega
  have e6 : ¬ (v < (1000000 : Int64)) := fun q => by
    have q' := Int64.lt_iff_toInt_lt.mp q
    rw [show (1000000 : Int64).toInt = 1000000 from by decide] at q'
    omega
  have e7 : ¬ (v < (10000000 : Int64)) := fun q => by
    have q' := Int64.lt_iff_toInt_lt.mp q
    rw [show (10000000 : Int64).toInt = 10000000 from by decide] at q'
    omega
  have e8 : ¬ (v < (100000000 : Int64)) := fun q => by
    have q' := Int64.lt_iff_toInt_lt.mp q
    rw [show (100000000 : Int64).toInt = 100000000 from by decide] at q'
    omega
  have e9 : ¬ (v < (1000000000 : Int64)) := fun q => by
    have q' := Int64.lt_iff_toInt_lt.mp q
    rw [show (1000000000 : Int64).toInt = 1000000000 from by decide] at q'
    omega
  have e10 : ¬ (v < (10000000000 : Int64)) := fun q => by
    have q' := Int64.lt_iff_toInt_lt.mp q
    rw [show (10000000000 : Int64).toInt = 10000000000 from by decide] at q'
    omega
  have e11 : ¬ (v < (100000000000 : Int64)) := fun q => by
    have q' := Int64.lt_iff_toInt_lt.mp q
    rw [show (100000000000 : Int64).toInt = 100000000000 from by decide] at q'
    omega
  have e12 : ¬ (v < (1000000000000 : Int64)) := fun q => by
    have q' := Int64.lt_iff_toInt_lt.mp q
    rw [show (1000000000000 : Int64).toInt = 1000000000000 from by decide] at q'
    omega
  have e13 : ¬ (v < (10000000000000 : Int64)) := fun q => by
    have q' := Int64.lt_iff_toInt_lt.mp q
    rw [show (10000000000000 : Int64).toInt = 10000000000000 from by decide] at q'
    omega
  have e14 : ¬ (v < (100000000000000 : Int64)) := fun q => by
    have q' := Int64.lt_iff_toInt_lt.mp q
    rw [show (100000000000000 : Int64).toInt = 100000000000000 from by decide] at q'
    omega
  have e15 : v < (1000000000000000 : Int64) := Int64.lt_iff_toInt_lt.mpr (by rw [show (1000000000000000 : Int64).toInt = 1000000000000000 from by decide]; exact b)
  simp only [own_dig, e1, e2, e3, e4, e5, e6, e7, e8, e9, e10, e11, e12, e13, e14, e15, if_true, if_false]
theorem own_dg16 {v : Int64} (a : (1000000000000000 : Int) ≤ v.toInt) (b : v.toInt < (10000000000000000 : Int)) : own_dig v = (16 : Int32) := by
  have e1 : ¬ (v < (10 : Int64)) := fun q => by
    have q' := Int64.lt_iff_toInt_lt.mp q
    rw [show (10 : Int64).toInt = 10 from by decide] at q'
    omega
  have e2 : ¬ (v < (100 : Int64)) := fun q => by
    have q' := Int64.lt_iff_toInt_lt.mp q
    rw [show (100 : Int64).toInt = 100 from by decide] at q'
    omega
  have e3 : ¬ (v < (1000 : Int64)) := fun q => by
    have q' := Int64.lt_iff_toInt_lt.mp q
    rw [show (1000 : Int64).toInt = 1000 from by decide] at q'
    omega
  have e4 : ¬ (v < (10000 : Int64)) := fun q => by
    have q' := Int64.lt_iff_toInt_lt.mp q
    rw [show (10000 : Int64).toInt = 10000 from by decide] at q'
    omega
  have e5 : ¬ (v < (100000 : Int64)) := fun q => by
    have q' := Int64.lt_iff_toInt_lt.mp q
    rw [show (100000 : Int64).toInt = 100000 from by decide] at q'
    omega
  have e6 : ¬ (v < (1000000 : Int64)) := fun q => by
    have q' := Int64.lt_iff_toInt_lt.mp q
    rw [show (1000000 : Int64).toInt = 1000000 from by decide] at q'
    omega
  have e7 : ¬ (v < (10000000 : Int64)) := fun q => by
    have q' := Int64.lt_iff_toInt_lt.mp q
    rw [show (10000000 : Int64).toInt = 10000000 from by decide] at q'
    omega
  have e8 : ¬ (v < (100000000 : Int64)) := fun q => by
    have q' := Int64.lt_iff_toInt_lt.mp q
    rw [show (100000000 : Int64).toInt = 100000000 from by decide] at q'
    omega
  have e9 : ¬ (v < (1000000000 : Int64)) := fun q => by
    have q' := Int64.lt_iff_toInt_lt.mp q
    rw [show (1000000000 : Int64).toInt = 1000000000 from by decide] at q'
    omega
  have e10 : ¬ (v < (10000000000 : Int64)) := fun q => by
    have q' := Int64.lt_iff_toInt_lt.mp q
    rw [show (10000000000 : Int64).toInt = 10000000000 from by decide] at q'
    omega
  have e11 : ¬ (v < (100000000000 : Int64)) := fun q => by
    have q' := Int64.lt_iff_toInt_lt.mp q
    rw [show (100000000000 : Int64).toInt = 100000000000 from by decide] at q'
    omega
  have e12 : ¬ (v < (1000000000000 : Int64)) := fun q => by
    have q' := Int64.lt_iff_toInt_lt.mp q
    rw [show (1000000000000 : Int64).toInt = 1000000000000 from by decide] at q'
    omega
  have e13 : ¬ (v < (10000000000000 : Int64)) := fun q => by
    have q' := Int64.lt_iff_toInt_lt.mp q
    rw [show (10000000000000 : Int64).toInt = 10000000000000 from by decide] at q'
    omega
  have e14 : ¬ (v < (100000000000000 : Int64)) := fun q => by
    have q' := Int64.lt_iff_toInt_lt.mp q
    rw [show (100000000000000 : Int64).toInt = 100000000000000 from by decide] at q'
    omega
  have e15 : ¬ (v < (1000000000000000 : Int64)) := fun q => by
    have q' := Int64.lt_iff_toInt_lt.mp q
    rw [show (1000000000000000 : Int64).toInt = 1000000000000000 from by decide] at q'
    omega
  have e16 : v < (10000000000000000 : Int64) := Int64.lt_iff_toInt_lt.mpr (by rw [show (10000000000000000 : Int64).toInt = 10000000000000000 from by decide]; exact b)
  simp only [own_dig, e1, e2, e3, e4, e5, e6, e7, e8, e9, e10, e11, e12, e13, e14, e15, e16, if_true, if_false]
theorem own_dg17 {v : Int64} (a : (10000000000000000 : Int) ≤ v.toInt) (b : v.toInt < (100000000000000000 : Int)) : own_dig v = (17 : Int32) := by
  have e1 : ¬ (v < (10 : Int64)) := fun q => by
    have q' := Int64.lt_iff_toInt_lt.mp q
    rw [show (10 : Int64).toInt = 10 from by decide] at q'
    omega
  have e2 : ¬ (v < (100 : Int64)) := fun q => by
    have q' := Int64.lt_iff_toInt_lt.mp q
    rw [show (100 : Int64).toInt = 100 from by decide] at q'
    omega
  have e3 : ¬ (v < (1000 : Int64)) := fun q => by
    have q' := Int64.lt_iff_toInt_lt.mp q
    rw [show (1000 : Int64).toInt = 1000 from by decide] at q'
    omega
  have e4 : ¬ (v < (10000 : Int64)) := fun q => by
    have q' := Int64.lt_iff_toInt_lt.mp q
    rw [show (10000 : Int64).toInt = 10000 from by decide] at q'
    omega
  have e5 : ¬ (v < (100000 : Int64)) := fun q => by
    have q' := Int64.lt_iff_toInt_lt.mp q
    rw [show (100000 : Int64).toInt = 100000 from by decide] at q'
    omega
  have e6 : ¬ (v < (1000000 : Int64)) := fun q => by
    have q' := Int64.lt_iff_toInt_lt.mp q
    rw [show (1000000 : Int64).toInt = 1000000 from by decide] at q'
    omega
  have e7 : ¬ (v < (10000000 : Int64)) := fun q => by
    have q' := Int64.lt_iff_toInt_lt.mp q
    rw [show (10000000 : Int64).toInt = 10000000 from by decide] at q'
    omega
  have e8 : ¬ (v < (100000000 : Int64)) := fun q => by
    have q' := Int64.lt_iff_toInt_lt.mp q
    rw [show (100000000 : Int64).toInt = 100000000 from by decide] at q'
    omega
  have e9 : ¬ (v < (1000000000 : Int64)) := fun q => by
    have q' := Int64.lt_iff_toInt_lt.mp q
    rw [show (1000000000 : Int64).toInt = 1000000000 from by decide] at q'
    omega
  have e10 : ¬ (v < (10000000000 : Int64)) := fun q => by
    have q' := Int64.lt_iff_toInt_lt.mp q
    rw [show (10000000000 : Int64).toInt = 10000000000 from by decide] at q'
    omega
  have e11 : ¬ (v < (100000000000 : Int64)) := fun q => by
    have q' := Int64.lt_iff_toInt_lt.mp q
    rw [show (100000000000 : Int64).toInt = 100000000000 from by decide] at q'
    omega
  have e12 : ¬ (v < (1000000000000 : Int64)) := fun q => by
    have q' := Int64.lt_iff_toInt_lt.mp q
    rw [show (1000000000000 : Int64).toInt = 1000000000000 from by decide] at q'
    omega
  have e13 : ¬ (v < (10000000000000 : Int64)) := fun q => by
    have q' := Int64.lt_iff_toInt_lt.mp q
    rw [show (10000000000000 : Int64).toInt = 10000000000000 from by decide] at q'
    omega
  have e14 : ¬ (v < (100000000000000 : Int64)) := fun q => by
    have q' := Int64.lt_iff_toInt_lt.mp q
    rw [show (100000000000000 : Int64).toInt = 100000000000000 from by decide] at q'
    omega
  have e15 : ¬ (v < (1000000000000000 : Int64)) := fun q => by
    have q' := Int64.lt_iff_toInt_lt.mp q
    rw [show (1000000000000000 : Int64).toInt = 1000000000000000 from by decide] at q'
    omega
  have e16 : ¬ (v < (10000000000000000 : Int64)) := fun q => by
    have q' := Int64.lt_iff_toInt_lt.mp q
    rw [show (10000000000000000 : Int64).toInt = 10000000000000000 from by decide] at q'
    omega
  have e17 : v < (100000000000000000 : Int64) := Int64.lt_iff_toInt_lt.mpr (by rw [show (100000000000000000 : Int64).toInt = 100000000000000000 from by decide]; exact b)
  simp only [own_dig, e1, e2, e3, e4, e5, e6, e7, e8, e9, e10, e11, e12, e13, e14, e15, e16, e17, if_true, if_false]
theorem own_dg18 {v : Int64} (a : (100000000000000000 : Int) ≤ v.toInt) (b : v.toInt < (1000000000000000000 : Int)) : own_dig v = (18 : Int32) := by
  have e1 : ¬ (v < (10 : Int64)) := fun q => by
    have q' := Int64.lt_iff_toInt_lt.mp q
    rw [show (10 : Int64).toInt = 10 from by decide] at q'
    omega
  have e2 : ¬ (v < (100 : Int64)) := fun q => by
    have q' := Int64.lt_iff_toInt_lt.mp q
    rw [show (100 : Int64).toInt = 100 from by decide] at q'
    omega
  have e3 : ¬ (v < (1000 : Int64)) := fun q => by
    have q' := Int64.lt_iff_toInt_lt.mp q
    rw [show (1000 : Int64).toInt = 1000 from by decide] at q'
    omega
  have e4 : ¬ (v < (10000 : Int64)) := fun q => by
    have q' := Int64.lt_iff_toInt_lt.mp q
    rw [show (10000 : Int64).toInt = 10000 from by decide] at q'
    omega
  have e5 : ¬ (v < (100000 : Int64)) := fun q => by
    have q' := Int64.lt_iff_toInt_lt.mp q
    rw [show (100000 : Int64).toInt = 100000 from by decide] at q'
    omega
  have e6 : ¬ (v < (1000000 : Int64)) := fun q => by
    have q' := Int64.lt_iff_toInt_lt.mp q
    rw [show (1000000 : Int64).toInt = 1000000 from by decide] at q'
    omega
  have e7 : ¬ (v < (10000000 : Int64)) := fun q => by
    have q' := Int64.lt_iff_toInt_lt.mp q
    rw [show (10000000 : Int64).toInt = 10000000 from by decide] at q'
    omega
  have e8 : ¬ (v < (100000000 : Int64)) := fun q => by
    have q' := Int64.lt_iff_toInt_lt.mp q
    rw [show (100000000 : Int64).toInt = 100000000 from by decide] at q'
    omega
  have e9 : ¬ (v < (1000000000 : Int64)) := fun q => by
    have q' := Int64.lt_iff_toInt_lt.mp q
    rw [show (1000000000 : Int64).toInt = 1000000000 from by decide] at q'
    omega
  have e10 : ¬ (v < (10000000000 : Int64)) := fun q => by
    have q' := Int64.lt_iff_toInt_lt.mp q
    rw [show (10000000000 : Int64).toInt = 10000000000 from by decide] at q'
    omega
  have e11 : ¬ (v < (100000000000 : Int64)) := fun q => by
    have q' := Int64.lt_iff_toInt_lt.mp q
    rw [show (100000000000 : Int64).toInt = 100000000000 from by decide] at q'
    omega
  have e12 : ¬ (v < (1000000000000 : Int64)) := fun q => by
    have q' := Int64.lt_iff_toInt_lt.mp q
    rw [show (1000000000000 : Int64).toInt = 1000000000000 from by decide] at q'
    omega
  have e13 : ¬ (v < (10000000000000 : Int64)) := fun q => by
    have q' := Int64.lt_iff_toInt_lt.mp q
    rw [show (10000000000000 : Int64).toInt = 10000000000000 from by decide] at q'
    omega
  have e14 : ¬ (v < (100000000000000 : Int64)) := fun q => by
    have q' := Int64.lt_iff_toInt_lt.mp q
    rw [show (100000000000000 : Int64).toInt = 100000000000000 from by decide] at q'
    omega
  have e15 : ¬ (v < (1000000000000000 : Int64)) := fun q => by
    have q' := Int64.lt_iff_toInt_lt.mp q
    rw [show (1000000000000000 : Int64).toInt = 1000000000000000 from by decide] at q'
    omega
  have e16 : ¬ (v < (10000000000000000 : Int64)) := fun q => by
    have q' := Int64.lt_iff_toInt_lt.mp q
    rw [show (10000000000000000 : Int64).toInt = 10000000000000000 from by decide] at q'
    omega
  have e17 : ¬ (v < (100000000000000000 : Int64)) := fun q => by
    have q' := Int64.lt_iff_toInt_lt.mp q
    rw [show (100000000000000000 : Int64).toInt = 100000000000000000 from by decide] at q'
    omega
  have e18 : v < (1000000000000000000 : Int64) := Int64.lt_iff_toInt_lt.mpr (by rw [show (1000000000000000000 : Int64).toInt = 1000000000000000000 from by decide]; exact b)
  simp only [own_dig, e1, e2, e3, e4, e5, e6, e7, e8, e9, e10, e11, e12, e13, e14, e15, e16, e17, e18, if_true, if_false]
theorem own_dg19 {v : Int64} (a : (1000000000000000000 : Int) ≤ v.toInt) : own_dig v = (19 : Int32) := by
  have e1 : ¬ (v < (10 : Int64)) := fun q => by
    have q' := Int64.lt_iff_toInt_lt.mp q
    rw [show (10 : Int64).toInt = 10 from by decide] at q'
    omega
  have e2 : ¬ (v < (100 : Int64)) := fun q => by
    have q' := Int64.lt_iff_toInt_lt.mp q
    rw [show (100 : Int64).toInt = 100 from by decide] at q'
    omega
  have e3 : ¬ (v < (1000 : Int64)) := fun q => by
    have q' := Int64.lt_iff_toInt_lt.mp q
    rw [show (1000 : Int64).toInt = 1000 from by decide] at q'
    omega
  have e4 : ¬ (v < (10000 : Int64)) := fun q => by
    have q' := Int64.lt_iff_toInt_lt.mp q
    rw [show (10000 : Int64).toInt = 10000 from by decide] at q'
    omega
  have e5 : ¬ (v < (100000 : Int64)) := fun q => by
    have q' := Int64.lt_iff_toInt_lt.mp q
    rw [show (100000 : Int64).toInt = 100000 from by decide] at q'
    omega
  have e6 : ¬ (v < (1000000 : Int64)) := fun q => by
    have q' := Int64.lt_iff_toInt_lt.mp q
    rw [show (1000000 : Int64).toInt = 1000000 from by decide] at q'
    omega
  have e7 : ¬ (v < (10000000 : Int64)) := fun q => by
    have q' := Int64.lt_iff_toInt_lt.mp q
    rw [show (10000000 : Int64).toInt = 10000000 from by decide] at q'
    omega
  have e8 : ¬ (v < (100000000 : Int64)) := fun q => by
    have q' := Int64.lt_iff_toInt_lt.mp q
    rw [show (100000000 : Int64).toInt = 100000000 from by decide] at q'
    omega
  have e9 : ¬ (v < (1000000000 : Int64)) := fun q => by
    have q' := Int64.lt_iff_toInt_lt.mp q
    rw [show (1000000000 : Int64).toInt = 1000000000 from by decide] at q'
    omega
  have e10 : ¬ (v < (10000000000 : Int64)) := fun q => by
    have q' := Int64.lt_iff_toInt_lt.mp q
    rw [show (10000000000 : Int64).toInt = 10000000000 from by decide] at q'
    omega
  have e11 : ¬ (v < (100000000000 : Int64)) := fun q => by
    have q' := Int64.lt_iff_toInt_lt.mp q
    rw [show (100000000000 : Int64).toInt = 100000000000 from by decide] at q'
    omega
  have e12 : ¬ (v < (1000000000000 : Int64)) := fun q => by
    have q' := Int64.lt_iff_toInt_lt.mp q
    rw [show (1000000000000 : Int64).toInt = 1000000000000 from by decide] at q'
    omega
  have e13 : ¬ (v < (10000000000000 : Int64)) := fun q => by
    have q' := Int64.lt_iff_toInt_lt.mp q
    rw [show (10000000000000 : Int64).toInt = 10000000000000 from by decide] at q'
    omega
  have e14 : ¬ (v < (100000000000000 : Int64)) := fun q => by
    have q' := Int64.lt_iff_toInt_lt.mp q
    rw [show (100000000000000 : Int64).toInt = 100000000000000 from by decide] at q'
    omega
  have e15 : ¬ (v < (1000000000000000 : Int64)) := fun q => by
    have q' := Int64.lt_iff_toInt_lt.mp q
    rw [show (1000000000000000 : Int64).toInt = 1000000000000000 from by decide] at q'
    omega
  have e16 : ¬ (v < (10000000000000000 : Int64)) := fun q => by
    have q' := Int64.lt_iff_toInt_lt.mp q
    rw [show (10000000000000000 : Int64).toInt = 10000000000000000 from by decide] at q'
    omega
  have e17 : ¬ (v < (100000000000000000 : Int64)) := fun q => by
    have q' := Int64.lt_iff_toInt_lt.mp q
    rw [show (100000000000000000 : Int64).toInt = 100000000000000000 from by decide] at q'
    omega
  have e18 : ¬ (v < (1000000000000000000 : Int64)) := fun q => by
    have q' := Int64.lt_iff_toInt_lt.mp q
    rw [show (1000000000000000000 : Int64).toInt = 1000000000000000000 from by decide] at q'
    omega
  simp only [own_dig, e1, e2, e3, e4, e5, e6, e7, e8, e9, e10, e11, e12, e13, e14, e15, e16, e17, e18, if_true, if_false]
def own_PJ (v : Int64) (j : Nat) : Prop := ((2 ^ j : Nat) : Int) ≤ v.toInt → v.toInt < ((2 ^ (j + 1) : Nat) : Int) → ∃ t : Nat, t < 19 ∧ (((((64 : Int32) - Int32.ofInt (63 - (j : Int))) * (1233 : Int32)).toUInt32 >>> ((12 : Int32) &&& 31).toUInt32).toInt32) = Int32.ofNat t ∧ (v < own_pw t → own_dig v = Int32.ofNat t) ∧ (¬ v < own_pw t → own_dig v = Int32.ofNat t + (1 : Int32))
theorem own_upj {P : Nat → Prop} {n : Nat} (h : ∀ j, j < n → P j) (q : P n) : ∀ j, j < n + 1 → P j := fun j hj => (Nat.lt_or_eq_of_le (Nat.le_of_lt_succ hj)).elim (h j) (fun e => e ▸ q)
theorem own_pj0 (v : Int64) : own_PJ v 0 := fun b1 b2 => by
  replace b1 : (1 : Int) ≤ v.toInt := b1
  replace b2 : v.toInt < (2 : Int) := b2
  have hq : v < own_pw 0 ↔ v.toInt < (1 : Int) := by rw [show own_pw 0 = (1 : Int64) from rfl, Int64.lt_iff_toInt_lt, show (1 : Int64).toInt = 1 from by decide]
  refine ⟨0, by decide, by decide, fun q => ?_, fun q => ?_⟩
  · rw [hq] at q
    omega
  · rw [hq] at q
    exact (own_dg1 (by omega) (by omega)).trans (by decide)
theorem own_pj1 (v : Int64) : own_PJ v 1 := fun b1 b2 => by
  replace b1 : (2 : Int) ≤ v.toInt := b1
  replace b2 : v.toInt < (4 : Int) := b2
  have hq : v < own_pw 0 ↔ v.toInt < (1 : Int) := by rw [show own_pw 0 = (1 : Int64) from rfl, Int64.lt_iff_toInt_lt, show (1 : Int64).toInt = 1 from by decide]
  refine ⟨0, by decide, by decide, fun q => ?_, fun q => ?_⟩
  · rw [hq] at q
    omega
  · rw [hq] at q
    exact (own_dg1 (by omega) (by omega)).trans (by decide)
theorem own_pj2 (v : Int64) : own_PJ v 2 := fun b1 b2 => by
  replace b1 : (4 : Int) ≤ v.toInt := b1
  replace b2 : v.toInt < (8 : Int) := b2
  have hq : v < own_pw 0 ↔ v.toInt < (1 : Int) := by rw [show own_pw 0 = (1 : Int64) from rfl, Int64.lt_iff_toInt_lt, show (1 : Int64).toInt = 1 from by decide]
  refine ⟨0, by decide, by decide, fun q => ?_, fun q => ?_⟩
  · rw [hq] at q
    omega
  · rw [hq] at q
    exact (own_dg1 (by omega) (by omega)).trans (by decide)
theorem own_pj3 (v : Int64) : own_PJ v 3 := fun b1 b2 => by
  replace b1 : (8 : Int) ≤ v.toInt := b1
  replace b2 : v.toInt < (16 : Int) := b2
  have hq : v < own_pw 1 ↔ v.toInt < (10 : Int) := by rw [show own_pw 1 = (10 : Int64) from rfl, Int64.lt_iff_toInt_lt, show (10 : Int64).toInt = 10 from by decide]
  refine ⟨1, by decide, by decide, fun q => ?_, fun q => ?_⟩
  · rw [hq] at q
    exact (own_dg1 (by omega) (by omega)).trans (by decide)
  · rw [hq] at q
    exact (own_dg2 (by omega) (by omega)).trans (by decide)
theorem own_pj4 (v : Int64) : own_PJ v 4 := fun b1 b2 => by
  replace b1 : (16 : Int) ≤ v.toInt := b1
  replace b2 : v.toInt < (32 : Int) := b2
  have hq : v < own_pw 1 ↔ v.toInt < (10 : Int) := by rw [show own_pw 1 = (10 : Int64) from rfl, Int64.lt_iff_toInt_lt, show (10 : Int64).toInt = 10 from by decide]
  refine ⟨1, by decide, by decide, fun q => ?_, fun q => ?_⟩
  · rw [hq] at q
    omega
  · rw [hq] at q
    exact (own_dg2 (by omega) (by omega)).trans (by decide)
theorem own_pj5 (v : Int64) : own_PJ v 5 := fun b1 b2 => by
  replace b1 : (32 : Int) ≤ v.toInt := b1
  replace b2 : v.toInt < (64 : Int) := b2
  have hq : v < own_pw 1 ↔ v.toInt < (10 : Int) := by rw [show own_pw 1 = (10 : Int64) from rfl, Int64.lt_iff_toInt_lt, show (10 : Int64).toInt = 10 from by decide]
  refine ⟨1, by decide, by decide, fun q => ?_, fun q => ?_⟩
  · rw [hq] at q
    omega
  · rw [hq] at q
    exact (own_dg2 (by omega) (by omega)).trans (by decide)
theorem own_pj6 (v : Int64) : own_PJ v 6 := fun b1 b2 => by
  replace b1 : (64 : Int) ≤ v.toInt := b1
  replace b2 : v.toInt < (128 : Int) := b2
  have hq : v < own_pw 2 ↔ v.toInt < (100 : Int) := by rw [show own_pw 2 = (100 : Int64) from rfl, Int64.lt_iff_toInt_lt, show (100 : Int64).toInt = 100 from by decide]
  refine ⟨2, by decide, by decide, fun q => ?_, fun q => ?_⟩
  · rw [hq] at q
    exact (own_dg2 (by omega) (by omega)).trans (by decide)
  · rw [hq] at q
    exact (own_dg3 (by omega) (by omega)).trans (by decide)
theorem own_pj7 (v : Int64) : own_PJ v 7 := fun b1 b2 => by
  replace b1 : (128 : Int) ≤ v.toInt := b1
  replace b2 : v.toInt < (256 : Int) := b2
  have hq : v < own_pw 2 ↔ v.toInt < (100 : Int) := by rw [show own_pw 2 = (100 : Int64) from rfl, Int64.lt_iff_toInt_lt, show (100 : Int64).toInt = 100 from by decide]
  refine ⟨2, by decide, by decide, fun q => ?_, fun q => ?_⟩
  · rw [hq] at q
    omega
  · rw [hq] at q
    exact (own_dg3 (by omega) (by omega)).trans (by decide)
theorem own_pj8 (v : Int64) : own_PJ v 8 := fun b1 b2 => by
  replace b1 : (256 : Int) ≤ v.toInt := b1
  replace b2 : v.toInt < (512 : Int) := b2
  have hq : v < own_pw 2 ↔ v.toInt < (100 : Int) := by rw [show own_pw 2 = (100 : Int64) from rfl, Int64.lt_iff_toInt_lt, show (100 : Int64).toInt = 100 from by decide]
  refine ⟨2, by decide, by decide, fun q => ?_, fun q => ?_⟩
  · rw [hq] at q
    omega
  · rw [hq] at q
    exact (own_dg3 (by omega) (by omega)).trans (by decide)
theorem own_pj9 (v : Int64) : own_PJ v 9 := fun b1 b2 => by
  replace b1 : (512 : Int) ≤ v.toInt := b1
  replace b2 : v.toInt < (1024 : Int) := b2
  have hq : v < own_pw 3 ↔ v.toInt < (1000 : Int) := by rw [show own_pw 3 = (1000 : Int64) from rfl, Int64.lt_iff_toInt_lt, show (1000 : Int64).toInt = 1000 from by decide]
  refine ⟨3, by decide, by decide, fun q => ?_, fun q => ?_⟩
  · rw [hq] at q
    exact (own_dg3 (by omega) (by omega)).trans (by decide)
  · rw [hq] at q
    exact (own_dg4 (by omega) (by omega)).trans (by decide)
theorem own_pj10 (v : Int64) : own_PJ v 10 := fun b1 b2 => by
  replace b1 : (1024 : Int) ≤ v.toInt := b1
  replace b2 : v.toInt < (2048 : Int) := b2
  have hq : v < own_pw 3 ↔ v.toInt < (1000 : Int) := by rw [show own_pw 3 = (1000 : Int64) from rfl, Int64.lt_iff_toInt_lt, show (1000 : Int64).toInt = 1000 from by decide]
  refine ⟨3, by decide, by decide, fun q => ?_, fun q => ?_⟩
  · rw [hq] at q
    omega
  · rw [hq] at q
    exact (own_dg4 (by omega) (by omega)).trans (by decide)
theorem own_pj11 (v : Int64) : own_PJ v 11 := fun b1 b2 => by
  replace b1 : (2048 : Int) ≤ v.toInt := b1
  replace b2 : v.toInt < (4096 : Int) := b2
  have hq : v < own_pw 3 ↔ v.toInt < (1000 : Int) := by rw [show own_pw 3 = (1000 : Int64) from rfl, Int64.lt_iff_toInt_lt, show (1000 : Int64).toInt = 1000 from by decide]
  refine ⟨3, by decide, by decide, fun q => ?_, fun q => ?_⟩
  · rw [hq] at q
    omega
  · rw [hq] at q
    exact (own_dg4 (by omega) (by omega)).trans (by decide)
theorem own_pj12 (v : Int64) : own_PJ v 12 := fun b1 b2 => by
  replace b1 : (4096 : Int) ≤ v.toInt := b1
  replace b2 : v.toInt < (8192 : Int) := b2
  have hq : v < own_pw 3 ↔ v.toInt < (1000 : Int) := by rw [show own_pw 3 = (1000 : Int64) from rfl, Int64.lt_iff_toInt_lt, show (1000 : Int64).toInt = 1000 from by decide]
  refine ⟨3, by decide, by decide, fun q => ?_, fun q => ?_⟩
  · rw [hq] at q
    omega
  · rw [hq] at q
    exact (own_dg4 (by omega) (by omega)).trans (by decide)
theorem own_pj13 (v : Int64) : own_PJ v 13 := fun b1 b2 => by
  replace b1 : (8192 : Int) ≤ v.toInt := b1
  replace b2 : v.toInt < (16384 : Int) := b2
  have hq : v < own_pw 4 ↔ v.toInt < (10000 : Int) := by rw [show own_pw 4 = (10000 : Int64) from rfl, Int64.lt_iff_toInt_lt, show (10000 : Int64).toInt = 10000 from by decide]
  refine ⟨4, by decide, by decide, fun q => ?_, fun q => ?_⟩
  · rw [hq] at q
    exact (own_dg4 (by omega) (by omega)).trans (by decide)
  · rw [hq] at q
    exact (own_dg5 (by omega) (by omega)).trans (by decide)
theorem own_pj14 (v : Int64) : own_PJ v 14 := fun b1 b2 => by
  replace b1 : (16384 : Int) ≤ v.toInt := b1
  replace b2 : v.toInt < (32768 : Int) := b2
  have hq : v < own_pw 4 ↔ v.toInt < (10000 : Int) := by rw [show own_pw 4 = (10000 : Int64) from rfl, Int64.lt_iff_toInt_lt, show (10000 : Int64).toInt = 10000 from by decide]
  refine ⟨4, by decide, by decide, fun q => ?_, fun q => ?_⟩
  · rw [hq] at q
    omega
  · rw [hq] at q
    exact (own_dg5 (by omega) (by omega)).trans (by decide)
theorem own_pj15 (v : Int64) : own_PJ v 15 := fun b1 b2 => by
  replace b1 : (32768 : Int) ≤ v.toInt := b1
  replace b2 : v.toInt < (65536 : Int) := b2
  have hq : v < own_pw 4 ↔ v.toInt < (10000 : Int) := by rw [show own_pw 4 = (10000 : Int64) from rfl, Int64.lt_iff_toInt_lt, show (10000 : Int64).toInt = 10000 from by decide]
  refine ⟨4, by decide, by decide, fun q => ?_, fun q => ?_⟩
  · rw [hq] at q
    omega
  · rw [hq] at q
    exact (own_dg5 (by omega) (by omega)).trans (by decide)
theorem own_pj16 (v : Int64) : own_PJ v 16 := fun b1 b2 => by
  replace b1 : (65536 : Int) ≤ v.toInt := b1
  replace b2 : v.toInt < (131072 : Int) := b2
  have hq : v < own_pw 5 ↔ v.toInt < (100000 : Int) := by rw [show own_pw 5 = (100000 : Int64) from rfl, Int64.lt_iff_toInt_lt, show (100000 : Int64).toInt = 100000 from by decide]
  refine ⟨5, by decide, by decide, fun q => ?_, fun q => ?_⟩
  · rw [hq] at q
    exact (own_dg5 (by omega) (by omega)).trans (by decide)
  · rw [hq] at q
    exact (own_dg6 (by omega) (by omega)).trans (by decide)
theorem own_pj17 (v : Int64) : own_PJ v 17 := fun b1 b2 => by
  replace b1 : (131072 : Int) ≤ v.toInt := b1
  replace b2 : v.toInt < (262144 : Int) := b2
  have hq : v < own_pw 5 ↔ v.toInt < (100000 : Int) := by rw [show own_pw 5 = (100000 : Int64) from rfl, Int64.lt_iff_toInt_lt, show (100000 : Int64).toInt = 100000 from by decide]
  refine ⟨5, by decide, by decide, fun q => ?_, fun q => ?_⟩
  · rw [hq] at q
    omega
  · rw [hq] at q
    exact (own_dg6 (by omega) (by omega)).trans (by decide)
theorem own_pj18 (v : Int64) : own_PJ v 18 := fun b1 b2 => by
  replace b1 : (262144 : Int) ≤ v.toInt := b1
  replace b2 : v.toInt < (524288 : Int) := b2
  have hq : v < own_pw 5 ↔ v.toInt < (100000 : Int) := by rw [show own_pw 5 = (100000 : Int64) from rfl, Int64.lt_iff_toInt_lt, show (100000 : Int64).toInt = 100000 from by decide]
  refine ⟨5, by decide, by decide, fun q => ?_, fun q => ?_⟩
  · rw [hq] at q
    omega
  · rw [hq] at q
    exact (own_dg6 (by omega) (by omega)).trans (by decide)
theorem own_pj19 (v : Int64) : own_PJ v 19 := fun b1 b2 => by
  replace b1 : (524288 : Int) ≤ v.toInt := b1
  replace b2 : v.toInt < (1048576 : Int) := b2
  have hq : v < own_pw 6 ↔ v.toInt < (1000000 : Int) := by rw [show own_pw 6 = (1000000 : Int64) from rfl, Int64.lt_iff_toInt_lt, show (1000000 : Int64).toInt = 1000000 from by decide]
  refine ⟨6, by decide, by decide, fun q => ?_, fun q => ?_⟩
  · rw [hq] at q
    exact (own_dg6 (by omega) (by omega)).trans (by decide)
  · rw [hq] at q
    exact (own_dg7 (by omega) (by omega)).trans (by decide)
theorem own_pj20 (v : Int64) : own_PJ v 20 := fun b1 b2 => by
  replace b1 : (1048576 : Int) ≤ v.toInt := b1
  replace b2 : v.toInt < (2097152 : Int) := b2
  have hq : v < own_pw 6 ↔ v.toInt < (1000000 : Int) := by rw [show own_pw 6 = (1000000 : Int64) from rfl, Int64.lt_iff_toInt_lt, show (1000000 : Int64).toInt = 1000000 from by decide]
  refine ⟨6, by decide, by decide, fun q => ?_, fun q => ?_⟩
  · rw [hq] at q
    omega
  · rw [hq] at q
    exact (own_dg7 (by omega) (by omega)).trans (by decide)
theorem own_pj21 (v : Int64) : own_PJ v 21 := fun b1 b2 => by
  replace b1 : (2097152 : Int) ≤ v.toInt := b1
  replace b2 : v.toInt < (4194304 : Int) := b2
  have hq : v < own_pw 6 ↔ v.toInt < (1000000 : Int) := by rw [show own_pw 6 = (1000000 : Int64) from rfl, Int64.lt_iff_toInt_lt, show (1000000 : Int64).toInt = 1000000 from by decide]
  refine ⟨6, by decide, by decide, fun q => ?_, fun q => ?_⟩
  · rw [hq] at q
    omega
  · rw [hq] at q
    exact (own_dg7 (by omega) (by omega)).trans (by decide)
theorem own_pj22 (v : Int64) : own_PJ v 22 := fun b1 b2 => by
  replace b1 : (4194304 : Int) ≤ v.toInt := b1
  replace b2 : v.toInt < (8388608 : Int) := b2
  have hq : v < own_pw 6 ↔ v.toInt < (1000000 : Int) := by rw [show own_pw 6 = (1000000 : Int64) from rfl, Int64.lt_iff_toInt_lt, show (1000000 : Int64).toInt = 1000000 from by decide]
  refine ⟨6, by decide, by decide, fun q => ?_, fun q => ?_⟩
  · rw [hq] at q
    omega
  · rw [hq] at q
    exact (own_dg7 (by omega) (by omega)).trans (by decide)
theorem own_pj23 (v : Int64) : own_PJ v 23 := fun b1 b2 => by
  replace b1 : (8388608 : Int) ≤ v.toInt := b1
  replace b2 : v.toInt < (16777216 : Int) := b2
  have hq : v < own_pw 7 ↔ v.toInt < (10000000 : Int) := by rw [show own_pw 7 = (10000000 : Int64) from rfl, Int64.lt_iff_toInt_lt, show (10000000 : Int64).toInt = 10000000 from by decide]
  refine ⟨7, by decide, by decide, fun q => ?_, fun q => ?_⟩
  · rw [hq] at q
    exact (own_dg7 (by omega) (by omega)).trans (by decide)
  · rw [hq] at q
    exact (own_dg8 (by omega) (by omega)).trans (by decide)
theorem own_pj24 (v : Int64) : own_PJ v 24 := fun b1 b2 => by
  replace b1 : (16777216 : Int) ≤ v.toInt := b1
  replace b2 : v.toInt < (33554432 : Int) := b2
  have hq : v < own_pw 7 ↔ v.toInt < (10000000 : Int) := by rw [show own_pw 7 = (10000000 : Int64) from rfl, Int64.lt_iff_toInt_lt, show (10000000 : Int64).toInt = 10000000 from by decide]
  refine ⟨7, by decide, by decide, fun q => ?_, fun q => ?_⟩
  · rw [hq] at q
    omega
  · rw [hq] at q
    exact (own_dg8 (by omega) (by omega)).trans (by decide)
theorem own_pj25 (v : Int64) : own_PJ v 25 := fun b1 b2 => by
  replace b1 : (33554432 : Int) ≤ v.toInt := b1
  replace b2 : v.toInt < (67108864 : Int) := b2
  have hq : v < own_pw 7 ↔ v.toInt < (10000000 : Int) := by rw [show own_pw 7 = (10000000 : Int64) from rfl, Int64.lt_iff_toInt_lt, show (10000000 : Int64).toInt = 10000000 from by decide]
  refine ⟨7, by decide, by decide, fun q => ?_, fun q => ?_⟩
  · rw [hq] at q
    omega
  · rw [hq] at q
    exact (own_dg8 (by omega) (by omega)).trans (by decide)
theorem own_pj26 (v : Int64) : own_PJ v 26 := fun b1 b2 => by
  replace b1 : (67108864 : Int) ≤ v.toInt := b1
  replace b2 : v.toInt < (134217728 : Int) := b2
  have hq : v < own_pw 8 ↔ v.toInt < (100000000 : Int) := by rw [show own_pw 8 = (100000000 : Int64) from rfl, Int64.lt_iff_toInt_lt, show (100000000 : Int64).toInt = 100000000 from by decide]
  refine ⟨8, by decide, by decide, fun q => ?_, fun q => ?_⟩
  · rw [hq] at q
    exact (own_dg8 (by omega) (by omega)).trans (by decide)
  · rw [hq] at q
    exact (own_dg9 (by omega) (by omega)).trans (by decide)
theorem own_pj27 (v : Int64) : own_PJ v 27 := fun b1 b2 => by
  replace b1 : (134217728 : Int) ≤ v.toInt := b1
  replace b2 : v.toInt < (268435456 : Int) := b2
  have hq : v < own_pw 8 ↔ v.toInt < (100000000 : Int) := by rw [show own_pw 8 = (100000000 : Int64) from rfl, Int64.lt_iff_toInt_lt, show (100000000 : Int64).toInt = 100000000 from by decide]
  refine ⟨8, by decide, by decide, fun q => ?_, fun q => ?_⟩
  · rw [hq] at q
    omega
  · rw [hq] at q
    exact (own_dg9 (by omega) (by omega)).trans (by decide)
theorem own_pj28 (v : Int64) : own_PJ v 28 := fun b1 b2 => by
  replace b1 : (268435456 : Int) ≤ v.toInt := b1
  replace b2 : v.toInt < (536870912 : Int) := b2
  have hq : v < own_pw 8 ↔ v.toInt < (100000000 : Int) := by rw [show own_pw 8 = (100000000 : Int64) from rfl, Int64.lt_iff_toInt_lt, show (100000000 : Int64).toInt = 100000000 from by decide]
  refine ⟨8, by decide, by decide, fun q => ?_, fun q => ?_⟩
  · rw [hq] at q
    omega
  · rw [hq] at q
    exact (own_dg9 (by omega) (by omega)).trans (by decide)
theorem own_pj29 (v : Int64) : own_PJ v 29 := fun b1 b2 => by
  replace b1 : (536870912 : Int) ≤ v.toInt := b1
  replace b2 : v.toInt < (1073741824 : Int) := b2
  have hq : v < own_pw 9 ↔ v.toInt < (1000000000 : Int) := by rw [show own_pw 9 = (1000000000 : Int64) from rfl, Int64.lt_iff_toInt_lt, show (1000000000 : Int64).toInt = 1000000000 from by decide]
  refine ⟨9, by decide, by decide, fun q => ?_, fun q => ?_⟩
  · rw [hq] at q
    exact (own_dg9 (by omega) (by omega)).trans (by decide)
  · rw [hq] at q
    exact (own_dg10 (by omega) (by omega)).trans (by decide)
theorem own_pj30 (v : Int64) : own_PJ v 30 := fun b1 b2 => by
  replace b1 : (1073741824 : Int) ≤ v.toInt := b1
  replace b2 : v.toInt < (2147483648 : Int) := b2
  have hq : v < own_pw 9 ↔ v.toInt < (1000000000 : Int) := by rw [show own_pw 9 = (1000000000 : Int64) from rfl, Int64.lt_iff_toInt_lt, show (1000000000 : Int64).toInt = 1000000000 from by decide]
  refine ⟨9, by decide, by decide, fun q => ?_, fun q => ?_⟩
  · rw [hq] at q
    omega
  · rw [hq] at q
    exact (own_dg10 (by omega) (by omega)).trans (by decide)
theorem own_pj31 (v : Int64) : own_PJ v 31 := fun b1 b2 => by
  replace b1 : (2147483648 : Int) ≤ v.toInt := b1
  replace b2 : v.toInt < (4294967296 : Int) := b2
  have hq : v < own_pw 9 ↔ v.toInt < (1000000000 : Int) := by rw [show own_pw 9 = (1000000000 : Int64) from rfl, Int64.lt_iff_toInt_lt, show (1000000000 : Int64).toInt = 1000000000 from by decide]
  refine ⟨9, by decide, by decide, fun q => ?_, fun q => ?_⟩
  · rw [hq] at q
    omega
  · rw [hq] at q
    exact (own_dg10 (by omega) (by omega)).trans (by decide)
theorem own_pj32 (v : Int64) : own_PJ v 32 := fun b1 b2 => by
  replace b1 : (4294967296 : Int) ≤ v.toInt := b1
  replace b2 : v.toInt < (8589934592 : Int) := b2
  have hq : v < own_pw 9 ↔ v.toInt < (1000000000 : Int) := by rw [show own_pw 9 = (1000000000 : Int64) from rfl, Int64.lt_iff_toInt_lt, show (1000000000 : Int64).toInt = 1000000000 from by decide]
  refine ⟨9, by decide, by decide, fun q => ?_, fun q => ?_⟩
  · rw [hq] at q
    omega
  · rw [hq] at q
    exact (own_dg10 (by omega) (by omega)).trans (by decide)
theorem own_pj33 (v : Int64) : own_PJ v 33 := fun b1 b2 => by
  replace b1 : (8589934592 : Int) ≤ v.toInt := b1
  replace b2 : v.toInt < (17179869184 : Int) := b2
  have hq : v < own_pw 10 ↔ v.toInt < (10000000000 : Int) := by rw [show own_pw 10 = (10000000000 : Int64) from rfl, Int64.lt_iff_toInt_lt, show (10000000000 : Int64).toInt = 10000000000 from by decide]
  refine ⟨10, by decide, by decide, fun q => ?_, fun q => ?_⟩
  · rw [hq] at q
    exact (own_dg10 (by omega) (by omega)).trans (by decide)
  · rw [hq] at q
    exact (own_dg11 (by omega) (by omega)).trans (by decide)
theorem own_pj34 (v : Int64) : own_PJ v 34 := fun b1 b2 => by
  replace b1 : (17179869184 : Int) ≤ v.toInt := b1
  replace b2 : v.toInt < (34359738368 : Int) := b2
  have hq : v < own_pw 10 ↔ v.toInt < (10000000000 : Int) := by rw [show own_pw 10 = (10000000000 : Int64) from rfl, Int64.lt_iff_toInt_lt, show (10000000000 : Int64).toInt = 10000000000 from by decide]
  refine ⟨10, by decide, by decide, fun q => ?_, fun q => ?_⟩
  · rw [hq] at q
    omega
  · rw [hq] at q
    exact (own_dg11 (by omega) (by omega)).trans (by decide)
theorem own_pj35 (v : Int64) : own_PJ v 35 := fun b1 b2 => by
  replace b1 : (34359738368 : Int) ≤ v.toInt := b1
  replace b2 : v.toInt < (68719476736 : Int) := b2
  have hq : v < own_pw 10 ↔ v.toInt < (10000000000 : Int) := by rw [show own_pw 10 = (10000000000 : Int64) from rfl, Int64.lt_iff_toInt_lt, show (10000000000 : Int64).toInt = 10000000000 from by decide]
  refine ⟨10, by decide, by decide, fun q => ?_, fun q => ?_⟩
  · rw [hq] at q
    omega
  · rw [hq] at q
    exact (own_dg11 (by omega) (by omega)).trans (by decide)
theorem own_pj36 (v : Int64) : own_PJ v 36 := fun b1 b2 => by
  replace b1 : (68719476736 : Int) ≤ v.toInt := b1
  replace b2 : v.toInt < (137438953472 : Int) := b2
  have hq : v < own_pw 11 ↔ v.toInt < (100000000000 : Int) := by rw [show own_pw 11 = (100000000000 : Int64) from rfl, Int64.lt_iff_toInt_lt, show (100000000000 : Int64).toInt = 100000000000 from by decide]
  refine ⟨11, by decide, by decide, fun q => ?_, fun q => ?_⟩
  · rw [hq] at q
    exact (own_dg11 (by omega) (by omega)).trans (by decide)
  · rw [hq] at q
    exact (own_dg12 (by omega) (by omega)).trans (by decide)
theorem own_pj37 (v : Int64) : own_PJ v 37 := fun b1 b2 => by
  replace b1 : (137438953472 : Int) ≤ v.toInt := b1
  replace b2 : v.toInt < (274877906944 : Int) := b2
  have hq : v < own_pw 11 ↔ v.toInt < (100000000000 : Int) := by rw [show own_pw 11 = (100000000000 : Int64) from rfl, Int64.lt_iff_toInt_lt, show (100000000000 : Int64).toInt = 100000000000 from by decide]
  refine ⟨11, by decide, by decide, fun q => ?_, fun q => ?_⟩
  · rw [hq] at q
    omega
  · rw [hq] at q
    exact (own_dg12 (by omega) (by omega)).trans (by decide)
theorem own_pj38 (v : Int64) : own_PJ v 38 := fun b1 b2 => by
  replace b1 : (274877906944 : Int) ≤ v.toInt := b1
  replace b2 : v.toInt < (549755813888 : Int) := b2
  have hq : v < own_pw 11 ↔ v.toInt < (100000000000 : Int) := by rw [show own_pw 11 = (100000000000 : Int64) from rfl, Int64.lt_iff_toInt_lt, show (100000000000 : Int64).toInt = 100000000000 from by decide]
  refine ⟨11, by decide, by decide, fun q => ?_, fun q => ?_⟩
  · rw [hq] at q
    omega
  · rw [hq] at q
    exact (own_dg12 (by omega) (by omega)).trans (by decide)
theorem own_pj39 (v : Int64) : own_PJ v 39 := fun b1 b2 => by
  replace b1 : (549755813888 : Int) ≤ v.toInt := b1
  replace b2 : v.toInt < (1099511627776 : Int) := b2
  have hq : v < own_pw 12 ↔ v.toInt < (1000000000000 : Int) := by rw [show own_pw 12 = (1000000000000 : Int64) from rfl, Int64.lt_iff_toInt_lt, show (1000000000000 : Int64).toInt = 1000000000000 from by decide]
  refine ⟨12, by decide, by decide, fun q => ?_, fun q => ?_⟩
  · rw [hq] at q
    exact (own_dg12 (by omega) (by omega)).trans (by decide)
  · rw [hq] at q
    exact (own_dg13 (by omega) (by omega)).trans (by decide)
theorem own_pj40 (v : Int64) : own_PJ v 40 := fun b1 b2 => by
  replace b1 : (1099511627776 : Int) ≤ v.toInt := b1
  replace b2 : v.toInt < (2199023255552 : Int) := b2
  have hq : v < own_pw 12 ↔ v.toInt < (1000000000000 : Int) := by rw [show own_pw 12 = (1000000000000 : Int64) from rfl, Int64.lt_iff_toInt_lt, show (1000000000000 : Int64).toInt = 1000000000000 from by decide]
  refine ⟨12, by decide, by decide, fun q => ?_, fun q => ?_⟩
  · rw [hq] at q
    omega
  · rw [hq] at q
    exact (own_dg13 (by omega) (by omega)).trans (by decide)
theorem own_pj41 (v : Int64) : own_PJ v 41 := fun b1 b2 => by
  replace b1 : (2199023255552 : Int) ≤ v.toInt := b1
  replace b2 : v.toInt < (4398046511104 : Int) := b2
  have hq : v < own_pw 12 ↔ v.toInt < (1000000000000 : Int) := by rw [show own_pw 12 = (1000000000000 : Int64) from rfl, Int64.lt_iff_toInt_lt, show (1000000000000 : Int64).toInt = 1000000000000 from by decide]
  refine ⟨12, by decide, by decide, fun q => ?_, fun q => ?_⟩
  · rw [hq] at q
    omega
  · rw [hq] at q
    exact (own_dg13 (by omega) (by omega)).trans (by decide)
theorem own_pj42 (v : Int64) : own_PJ v 42 := fun b1 b2 => by
  replace b1 : (4398046511104 : Int) ≤ v.toInt := b1
  replace b2 : v.toInt < (8796093022208 : Int) := b2
  have hq : v < own_pw 12 ↔ v.toInt < (1000000000000 : Int) := by rw [show own_pw 12 = (1000000000000 : Int64) from rfl, Int64.lt_iff_toInt_lt, show (1000000000000 : Int64).toInt = 1000000000000 from by decide]
  refine ⟨12, by decide, by decide, fun q => ?_, fun q => ?_⟩
  · rw [hq] at q
    omega
  · rw [hq] at q
    exact (own_dg13 (by omega) (by omega)).trans (by decide)
theorem own_pj43 (v : Int64) : own_PJ v 43 := fun b1 b2 => by
  replace b1 : (8796093022208 : Int) ≤ v.toInt := b1
  replace b2 : v.toInt < (17592186044416 : Int) := b2
  have hq : v < own_pw 13 ↔ v.toInt < (10000000000000 : Int) := by rw [show own_pw 13 = (10000000000000 : Int64) from rfl, Int64.lt_iff_toInt_lt, show (10000000000000 : Int64).toInt = 10000000000000 from by decide]
  refine ⟨13, by decide, by decide, fun q => ?_, fun q => ?_⟩
  · rw [hq] at q
    exact (own_dg13 (by omega) (by omega)).trans (by decide)
  · rw [hq] at q
    exact (own_dg14 (by omega) (by omega)).trans (by decide)
theorem own_pj44 (v : Int64) : own_PJ v 44 := fun b1 b2 => by
  replace b1 : (17592186044416 : Int) ≤ v.toInt := b1
  replace b2 : v.toInt < (35184372088832 : Int) := b2
  have hq : v < own_pw 13 ↔ v.toInt < (10000000000000 : Int) := by rw [show own_pw 13 = (10000000000000 : Int64) from rfl, Int64.lt_iff_toInt_lt, show (10000000000000 : Int64).toInt = 10000000000000 from by decide]
  refine ⟨13, by decide, by decide, fun q => ?_, fun q => ?_⟩
  · rw [hq] at q
    omega
  · rw [hq] at q
    exact (own_dg14 (by omega) (by omega)).trans (by decide)
theorem own_pj45 (v : Int64) : own_PJ v 45 := fun b1 b2 => by
  replace b1 : (35184372088832 : Int) ≤ v.toInt := b1
  replace b2 : v.toInt < (70368744177664 : Int) := b2
  have hq : v < own_pw 13 ↔ v.toInt < (10000000000000 : Int) := by rw [show own_pw 13 = (10000000000000 : Int64) from rfl, Int64.lt_iff_toInt_lt, show (10000000000000 : Int64).toInt = 10000000000000 from by decide]
  refine ⟨13, by decide, by decide, fun q => ?_, fun q => ?_⟩
  · rw [hq] at q
    omega
  · rw [hq] at q
    exact (own_dg14 (by omega) (by omega)).trans (by decide)
theorem own_pj46 (v : Int64) : own_PJ v 46 := fun b1 b2 => by
  replace b1 : (70368744177664 : Int) ≤ v.toInt := b1
  replace b2 : v.toInt < (140737488355328 : Int) := b2
  have hq : v < own_pw 14 ↔ v.toInt < (100000000000000 : Int) := by rw [show own_pw 14 = (100000000000000 : Int64) from rfl, Int64.lt_iff_toInt_lt, show (100000000000000 : Int64).toInt = 100000000000000 from by decide]
  refine ⟨14, by decide, by decide, fun q => ?_, fun q => ?_⟩
  · rw [hq] at q
    exact (own_dg14 (by omega) (by omega)).trans (by decide)
  · rw [hq] at q
    exact (own_dg15 (by omega) (by omega)).trans (by decide)
theorem own_pj47 (v : Int64) : own_PJ v 47 := fun b1 b2 => by
  replace b1 : (140737488355328 : Int) ≤ v.toInt := b1
  replace b2 : v.toInt < (281474976710656 : Int) := b2
  have hq : v < own_pw 14 ↔ v.toInt < (100000000000000 : Int) := by rw [show own_pw 14 = (100000000000000 : Int64) from rfl, Int64.lt_iff_toInt_lt, show (100000000000000 : Int64).toInt = 100000000000000 from by decide]
  refine ⟨14, by decide, by decide, fun q => ?_, fun q => ?_⟩
  · rw [hq] at q
    omega
  · rw [hq] at q
    exact (own_dg15 (by omega) (by omega)).trans (by decide)
theorem own_pj48 (v : Int64) : own_PJ v 48 := fun b1 b2 => by
  replace b1 : (281474976710656 : Int) ≤ v.toInt := b1
  replace b2 : v.toInt < (562949953421312 : Int) := b2
  have hq : v < own_pw 14 ↔ v.toInt < (100000000000000 : Int) := by rw [show own_pw 14 = (100000000000000 : Int64) from rfl, Int64.lt_iff_toInt_lt, show (100000000000000 : Int64).toInt = 100000000000000 from by decide]
  refine ⟨14, by decide, by decide, fun q => ?_, fun q => ?_⟩
  · rw [hq] at q
    omega
  · rw [hq] at q
    exact (own_dg15 (by omega) (by omega)).trans (by decide)
theorem own_pj49 (v : Int64) : own_PJ v 49 := fun b1 b2 => by
  replace b1 : (562949953421312 : Int) ≤ v.toInt := b1
  replace b2 : v.toInt < (1125899906842624 : Int) := b2
  have hq : v < own_pw 15 ↔ v.toInt < (1000000000000000 : Int) := by rw [show own_pw 15 = (1000000000000000 : Int64) from rfl, Int64.lt_iff_toInt_lt, show (1000000000000000 : Int64).toInt = 1000000000000000 from by decide]
  refine ⟨15, by decide, by decide, fun q => ?_, fun q => ?_⟩
  · rw [hq] at q
    exact (own_dg15 (by omega) (by omega)).trans (by decide)
  · rw [hq] at q
    exact (own_dg16 (by omega) (by omega)).trans (by decide)
theorem own_pj50 (v : Int64) : own_PJ v 50 := fun b1 b2 => by
  replace b1 : (1125899906842624 : Int) ≤ v.toInt := b1
  replace b2 : v.toInt < (2251799813685248 : Int) := b2
  have hq : v < own_pw 15 ↔ v.toInt < (1000000000000000 : Int) := by rw [show own_pw 15 = (1000000000000000 : Int64) from rfl, Int64.lt_iff_toInt_lt, show (1000000000000000 : Int64).toInt = 1000000000000000 from by decide]
  refine ⟨15, by decide, by decide, fun q => ?_, fun q => ?_⟩
  · rw [hq] at q
    omega
  · rw [hq] at q
    exact (own_dg16 (by omega) (by omega)).trans (by decide)
theorem own_pj51 (v : Int64) : own_PJ v 51 := fun b1 b2 => by
  replace b1 : (2251799813685248 : Int) ≤ v.toInt := b1
  replace b2 : v.toInt < (4503599627370496 : Int) := b2
  have hq : v < own_pw 15 ↔ v.toInt < (1000000000000000 : Int) := by rw [show own_pw 15 = (1000000000000000 : Int64) from rfl, Int64.lt_iff_toInt_lt, show (1000000000000000 : Int64).toInt = 1000000000000000 from by decide]
  refine ⟨15, by decide, by decide, fun q => ?_, fun q => ?_⟩
  · rw [hq] at q
    omega
  · rw [hq] at q
    exact (own_dg16 (by omega) (by omega)).trans (by decide)
theorem own_pj52 (v : Int64) : own_PJ v 52 := fun b1 b2 => by
  replace b1 : (4503599627370496 : Int) ≤ v.toInt := b1
  replace b2 : v.toInt < (9007199254740992 : Int) := b2
  have hq : v < own_pw 15 ↔ v.toInt < (1000000000000000 : Int) := by rw [show own_pw 15 = (1000000000000000 : Int64) from rfl, Int64.lt_iff_toInt_lt, show (1000000000000000 : Int64).toInt = 1000000000000000 from by decide]
  refine ⟨15, by decide, by decide, fun q => ?_, fun q => ?_⟩
  · rw [hq] at q
    omega
  · rw [hq] at q
    exact (own_dg16 (by omega) (by omega)).trans (by decide)
theorem own_pj53 (v : Int64) : own_PJ v 53 := fun b1 b2 => by
  replace b1 : (9007199254740992 : Int) ≤ v.toInt := b1
  replace b2 : v.toInt < (18014398509481984 : Int) := b2
  have hq : v < own_pw 16 ↔ v.toInt < (10000000000000000 : Int) := by rw [show own_pw 16 = (10000000000000000 : Int64) from rfl, Int64.lt_iff_toInt_lt, show (10000000000000000 : Int64).toInt = 10000000000000000 from by decide]
  refine ⟨16, by decide, by decide, fun q => ?_, fun q => ?_⟩
  · rw [hq] at q
    exact (own_dg16 (by omega) (by omega)).trans (by decide)
  · rw [hq] at q
    exact (own_dg17 (by omega) (by omega)).trans (by decide)
theorem own_pj54 (v : Int64) : own_PJ v 54 := fun b1 b2 => by
  replace b1 : (18014398509481984 : Int) ≤ v.toInt := b1
  replace b2 : v.toInt < (36028797018963968 : Int) := b2
  have hq : v < own_pw 16 ↔ v.toInt < (10000000000000000 : Int) := by rw [show own_pw 16 = (10000000000000000 : Int64) from rfl, Int64.lt_iff_toInt_lt, show (10000000000000000 : Int64).toInt = 10000000000000000 from by decide]
  refine ⟨16, by decide, by decide, fun q => ?_, fun q => ?_⟩
  · rw [hq] at q
    omega
  · rw [hq] at q
    exact (own_dg17 (by omega) (by omega)).trans (by decide)
theorem own_pj55 (v : Int64) : own_PJ v 55 := fun b1 b2 => by
  replace b1 : (36028797018963968 : Int) ≤ v.toInt := b1
  replace b2 : v.toInt < (72057594037927936 : Int) := b2
  have hq : v < own_pw 16 ↔ v.toInt < (10000000000000000 : Int) := by rw [show own_pw 16 = (10000000000000000 : Int64) from rfl, Int64.lt_iff_toInt_lt, show (10000000000000000 : Int64).toInt = 10000000000000000 from by decide]
  refine ⟨16, by decide, by decide, fun q => ?_, fun q => ?_⟩
  · rw [hq] at q
    omega
  · rw [hq] at q
    exact (own_dg17 (by omega) (by omega)).trans (by decide)
theorem own_pj56 (v : Int64) : own_PJ v 56 := fun b1 b2 => by
  replace b1 : (72057594037927936 : Int) ≤ v.toInt := b1
  replace b2 : v.toInt < (144115188075855872 : Int) := b2
  have hq : v < own_pw 17 ↔ v.toInt < (100000000000000000 : Int) := by rw [show own_pw 17 = (100000000000000000 : Int64) from rfl, Int64.lt_iff_toInt_lt, show (100000000000000000 : Int64).toInt = 100000000000000000 from by decide]
  refine ⟨17, by decide, by decide, fun q => ?_, fun q => ?_⟩
  · rw [hq] at q
    exact (own_dg17 (by omega) (by omega)).trans (by decide)
  · rw [hq] at q
    exact (own_dg18 (by omega) (by omega)).trans (by decide)
theorem own_pj57 (v : Int64) : own_PJ v 57 := fun b1 b2 => by
  replace b1 : (144115188075855872 : Int) ≤ v.toInt := b1
  replace b2 : v.toInt < (288230376151711744 : Int) := b2
  have hq : v < own_pw 17 ↔ v.toInt < (100000000000000000 : Int) := by rw [show own_pw 17 = (100000000000000000 : Int64) from rfl, Int64.lt_iff_toInt_lt, show (100000000000000000 : Int64).toInt = 100000000000000000 from by decide]
  refine ⟨17, by decide, by decide, fun q => ?_, fun q => ?_⟩
  · rw [hq] at q
    omega
  · rw [hq] at q
    exact (own_dg18 (by omega) (by omega)).trans (by decide)
theorem own_pj58 (v : Int64) : own_PJ v 58 := fun b1 b2 => by
  replace b1 : (288230376151711744 : Int) ≤ v.toInt := b1
  replace b2 : v.toInt < (576460752303423488 : Int) := b2
  have hq : v < own_pw 17 ↔ v.toInt < (100000000000000000 : Int) := by rw [show own_pw 17 = (100000000000000000 : Int64) from rfl, Int64.lt_iff_toInt_lt, show (100000000000000000 : Int64).toInt = 100000000000000000 from by decide]
  refine ⟨17, by decide, by decide, fun q => ?_, fun q => ?_⟩
  · rw [hq] at q
    omega
  · rw [hq] at q
    exact (own_dg18 (by omega) (by omega)).trans (by decide)
theorem own_pj59 (v : Int64) : own_PJ v 59 := fun b1 b2 => by
  replace b1 : (576460752303423488 : Int) ≤ v.toInt := b1
  replace b2 : v.toInt < (1152921504606846976 : Int) := b2
  have hq : v < own_pw 18 ↔ v.toInt < (1000000000000000000 : Int) := by rw [show own_pw 18 = (1000000000000000000 : Int64) from rfl, Int64.lt_iff_toInt_lt, show (1000000000000000000 : Int64).toInt = 1000000000000000000 from by decide]
  refine ⟨18, by decide, by decide, fun q => ?_, fun q => ?_⟩
  · rw [hq] at q
    exact (own_dg18 (by omega) (by omega)).trans (by decide)
  · rw [hq] at q
    exact (own_dg19 (by omega)).trans (by decide)
theorem own_pj60 (v : Int64) : own_PJ v 60 := fun b1 b2 => by
  replace b1 : (1152921504606846976 : Int) ≤ v.toInt := b1
  replace b2 : v.toInt < (2305843009213693952 : Int) := b2
  have hq : v < own_pw 18 ↔ v.toInt < (1000000000000000000 : Int) := by rw [show own_pw 18 = (1000000000000000000 : Int64) from rfl, Int64.lt_iff_toInt_lt, show (1000000000000000000 : Int64).toInt = 1000000000000000000 from by decide]
  refine ⟨18, by decide, by decide, fun q => ?_, fun q => ?_⟩
  · rw [hq] at q
    omega
  · rw [hq] at q
    exact (own_dg19 (by omega)).trans (by decide)
theorem own_pj61 (v : Int64) : own_PJ v 61 := fun b1 b2 => by
  replace b1 : (2305843009213693952 : Int) ≤ v.toInt := b1
  replace b2 : v.toInt < (4611686018427387904 : Int) := b2
  have hq : v < own_pw 18 ↔ v.toInt < (1000000000000000000 : Int) := by rw [show own_pw 18 = (1000000000000000000 : Int64) from rfl, Int64.lt_iff_toInt_lt, show (1000000000000000000 : Int64).toInt = 1000000000000000000 from by decide]
  refine ⟨18, by decide, by decide, fun q => ?_, fun q => ?_⟩
  · rw [hq] at q
    omega
  · rw [hq] at q
    exact (own_dg19 (by omega)).trans (by decide)
theorem own_pj62 (v : Int64) : own_PJ v 62 := fun b1 b2 => by
  replace b1 : (4611686018427387904 : Int) ≤ v.toInt := b1
  replace b2 : v.toInt < (9223372036854775808 : Int) := b2
  have hq : v < own_pw 18 ↔ v.toInt < (1000000000000000000 : Int) := by rw [show own_pw 18 = (1000000000000000000 : Int64) from rfl, Int64.lt_iff_toInt_lt, show (1000000000000000000 : Int64).toInt = 1000000000000000000 from by decide]
  refine ⟨18, by decide, by decide, fun q => ?_, fun q => ?_⟩
  · rw [hq] at q
    omega
  · rw [hq] at q
    exact (own_dg19 (by omega)).trans (by decide)
theorem own_pall (v : Int64) : ∀ j, j < 63 → own_PJ v j := by
  have h0 : ∀ j, j < 0 → own_PJ v j := fun j h => absurd h (Nat.not_lt_zero j)
  have h1 : ∀ j, j < 1 → own_PJ v j := own_upj h0 (own_pj0 v)
  have h2 : ∀ j, j < 2 → own_PJ v j := own_upj h1 (own_pj1 v)
  have h3 : ∀ j, j < 3 → own_PJ v j := own_upj h2 (own_pj2 v)
  have h4 : ∀ j, j < 4 → own_PJ v j := own_upj h3 (own_pj3 v)
  have h5 : ∀ j, j < 5 → own_PJ v j := own_upj h4 (own_pj4 v)
  have h6 : ∀ j, j < 6 → own_PJ v j := own_upj h5 (own_pj5 v)
  have h7 : ∀ j, j < 7 → own_PJ v j := own_upj h6 (own_pj6 v)
  have h8 : ∀ j, j < 8 → own_PJ v j := own_upj h7 (own_pj7 v)
  have h9 : ∀ j, j < 9 → own_PJ v j := own_upj h8 (own_pj8 v)
  have h10 : ∀ j, j < 10 → own_PJ v j := own_upj h9 (own_pj9 v)
  have h11 : ∀ j, j < 11 → own_PJ v j := own_upj h10 (own_pj10 v)
  have h12 : ∀ j, j < 12 → own_PJ v j := own_upj h11 (own_pj11 v)
  have h13 : ∀ j, j < 13 → own_PJ v j := own_upj h12 (own_pj12 v)
  have h14 : ∀ j, j < 14 → own_PJ v j := own_upj h13 (own_pj13 v)
  have h15 : ∀ j, j < 15 → own_PJ v j := own_upj h14 (own_pj14 v)
  have h16 : ∀ j, j < 16 → own_PJ v j := own_upj h15 (own_pj15 v)
  have h17 : ∀ j, j < 17 → own_PJ v j := own_upj h16 (own_pj16 v)
  have h18 : ∀ j, j < 18 → own_PJ v j := own_upj h17 (own_pj17 v)
  have h19 : ∀ j, j < 19 → own_PJ v j := own_upj h18 (own_pj18 v)
  have h20 : ∀ j, j < 20 → own_PJ v j := own_upj h19 (own_pj19 v)
  have h21 : ∀ j, j < 21 → own_PJ v j := own_upj h20 (own_pj20 v)
  have h22 : ∀ j, j < 22 → own_PJ v j := own_upj h21 (own_pj21 v)
  have h23 : ∀ j, j < 23 → own_PJ v j := own_upj h22 (own_pj22 v)
  have h24 : ∀ j, j < 24 → own_PJ v j := own_upj h23 (own_pj23 v)
  have h25 : ∀ j, j < 25 → own_PJ v j := own_upj h24 (own_pj24 v)
  have h26 : ∀ j, j < 26 → own_PJ v j := own_upj h25 (own_pj25 v)
  have h27 : ∀ j, j < 27 → own_PJ v j := own_upj h26 (own_pj26 v)
  have h28 : ∀ j, j < 28 → own_PJ v j := own_upj h27 (own_pj27 v)
  have h29 : ∀ j, j < 29 → own_PJ v j := own_upj h28 (own_pj28 v)
  have h30 : ∀ j, j < 30 → own_PJ v j := own_upj h29 (own_pj29 v)
  have h31 : ∀ j, j < 31 → own_PJ v j := own_upj h30 (own_pj30 v)
  have h32 : ∀ j, j < 32 → own_PJ v j := own_upj h31 (own_pj31 v)
  have h33 : ∀ j, j < 33 → own_PJ v j := own_upj h32 (own_pj32 v)
  have h34 : ∀ j, j < 34 → own_PJ v j := own_upj h33 (own_pj33 v)
  have h35 : ∀ j, j < 35 → own_PJ v j := own_upj h34 (own_pj34 v)
  have h36 : ∀ j, j < 36 → own_PJ v j := own_upj h35 (own_pj35 v)
  have h37 : ∀ j, j < 37 → own_PJ v j := own_upj h36 (own_pj36 v)
  have h38 : ∀ j, j < 38 → own_PJ v j := own_upj h37 (own_pj37 v)
  have h39 : ∀ j, j < 39 → own_PJ v j := own_upj h38 (own_pj38 v)
  have h40 : ∀ j, j < 40 → own_PJ v j := own_upj h39 (own_pj39 v)
  have h41 : ∀ j, j < 41 → own_PJ v j := own_upj h40 (own_pj40 v)
  have h42 : ∀ j, j < 42 → own_PJ v j := own_upj h41 (own_pj41 v)
  have h43 : ∀ j, j < 43 → own_PJ v j := own_upj h42 (own_pj42 v)
  have h44 : ∀ j, j < 44 → own_PJ v j := own_upj h43 (own_pj43 v)
  have h45 : ∀ j, j < 45 → own_PJ v j := own_upj h44 (own_pj44 v)
  have h46 : ∀ j, j < 46 → own_PJ v j := own_upj h45 (own_pj45 v)
  have h47 : ∀ j, j < 47 → own_PJ v j := own_upj h46 (own_pj46 v)
  have h48 : ∀ j, j < 48 → own_PJ v j := own_upj h47 (own_pj47 v)
  have h49 : ∀ j, j < 49 → own_PJ v j := own_upj h48 (own_pj48 v)
  have h50 : ∀ j, j < 50 → own_PJ v j := own_upj h49 (own_pj49 v)
  have h51 : ∀ j, j < 51 → own_PJ v j := own_upj h50 (own_pj50 v)
  have h52 : ∀ j, j < 52 → own_PJ v j := own_upj h51 (own_pj51 v)
  have h53 : ∀ j, j < 53 → own_PJ v j := own_upj h52 (own_pj52 v)
  have h54 : ∀ j, j < 54 → own_PJ v j := own_upj h53 (own_pj53 v)
  have h55 : ∀ j, j < 55 → own_PJ v j := own_upj h54 (own_pj54 v)
  have h56 : ∀ j, j < 56 → own_PJ v j := own_upj h55 (own_pj55 v)
  have h57 : ∀ j, j < 57 → own_PJ v j := own_upj h56 (own_pj56 v)
  have h58 : ∀ j, j < 58 → own_PJ v j := own_upj h57 (own_pj57 v)
  have h59 : ∀ j, j < 59 → own_PJ v j := own_upj h58 (own_pj58 v)
  have h60 : ∀ j, j < 60 → own_PJ v j := own_upj h59 (own_pj59 v)
  have h61 : ∀ j, j < 61 → own_PJ v j := own_upj h60 (own_pj60 v)
  have h62 : ∀ j, j < 62 → own_PJ v j := own_upj h61 (own_pj61 v)
  have h63 : ∀ j, j < 63 → own_PJ v j := own_upj h62 (own_pj62 v)
  exact h63
theorem own_plain {v : Int64} {z : Int32} (B : own_B64 v z) : ∃ t : Nat, t < 19 ∧ (((((64 : Int32) - z) * (1233 : Int32)).toUInt32 >>> ((12 : Int32) &&& 31).toUInt32).toInt32) = Int32.ofNat t ∧ (v < own_pw t → own_dig v = Int32.ofNat t) ∧ (¬ v < own_pw t → own_dig v = Int32.ofNat t + (1 : Int32)) := by
  obtain ⟨j, hj, b1, b2, b3⟩ := B
  have hz : z = Int32.ofInt (63 - j) := Int32.toInt_inj.mp (by rw [b3, Int32.toInt_ofInt_of_le (by omega) (by omega)])
  subst hz
  exact own_pall v j hj b1 b2
theorem own_d2_0 : decode prog_16_method_3_code 0 = .ok (.bipush 64, 2) := by decide +kernel
theorem own_d2_2 : decode prog_16_method_3_code 2 = .ok (.lload_n 0, 1) := by decide +kernel
theorem own_d2_3 : decode prog_16_method_3_code 3 = .ok (.invokestatic 15, 3) := by decide +kernel
theorem own_pd1 : parseMethodDescriptor "(J)I" = some ⟨[.long], some .int⟩ := by decide +kernel
theorem own_d2_6 : decode prog_16_method_3_code 6 = .ok (.isub, 1) := by decide +kernel
theorem own_d2_7 : decode prog_16_method_3_code 7 = .ok (.istore_n 2, 1) := by decide +kernel
theorem own_d2_8 : decode prog_16_method_3_code 8 = .ok (.iload_n 2, 1) := by decide +kernel
theorem own_d2_9 : decode prog_16_method_3_code 9 = .ok (.sipush 1233, 3) := by decide +kernel
theorem own_d2_12 : decode prog_16_method_3_code 12 = .ok (.imul, 1) := by decide +kernel
theorem own_d2_13 : decode prog_16_method_3_code 13 = .ok (.bipush 12, 2) := by decide +kernel
theorem own_d2_15 : decode prog_16_method_3_code 15 = .ok (.iushr, 1) := by decide +kernel
theorem own_d2_16 : decode prog_16_method_3_code 16 = .ok (.istore_n 3, 1) := by decide +kernel
theorem own_d2_17 : decode prog_16_method_3_code 17 = .ok (.lload_n 0, 1) := by decide +kernel
theorem own_d2_18 : decode prog_16_method_3_code 18 = .ok (.getstatic 7, 3) := by decide +kernel
theorem own_d2_21 : decode prog_16_method_3_code 21 = .ok (.iload_n 3, 1) := by decide +kernel
theorem own_d2_22 : decode prog_16_method_3_code 22 = .ok (.laload, 1) := by decide +kernel
theorem own_d2_23 : decode prog_16_method_3_code 23 = .ok (.lcmp, 1) := by decide +kernel
theorem own_d2_24 : decode prog_16_method_3_code 24 = .ok (.ifCond .lt 9, 3) := by decide +kernel
theorem own_d2_33 : decode prog_16_method_3_code 33 = .ok (.iload_n 3, 1) := by decide +kernel
theorem own_d2_34 : decode prog_16_method_3_code 34 = .ok (.ireturn, 1) := by decide +kernel
theorem own_ofNat {t : Nat} (h : t < 19) : (Int32.ofNat t).toNatClampNeg = t := by
  have := Int32.toInt_ofNat_of_lt (n := t) (by omega)
  simp only [Int32.toNatClampNeg, this]; omega
theorem own_in {t n : Nat} (h : t < 19) (hn : n = 19) : ¬ (Int32.ofNat t < 0 ∨ n ≤ (Int32.ofNat t).toNatClampNeg) := by
  have := Int32.toInt_ofNat_of_lt (n := t) (by omega)
  rw [own_ofNat h, Int32.lt_iff_toInt_lt, this, hn]
  have e0 : (0 : Int32).toInt = 0 := by decide
  omega
theorem own_d2_27 : decode prog_16_method_3_code 27 = .ok (.iload_n 3, 1) := by decide +kernel
theorem own_d2_28 : decode prog_16_method_3_code 28 = .ok (.iconst 1, 1) := by decide +kernel
theorem own_d2_29 : decode prog_16_method_3_code 29 = .ok (.iadd, 1) := by decide +kernel
theorem own_d2_30 : decode prog_16_method_3_code 30 = .ok (.goto 4, 3) := by decide +kernel
theorem own_ef2 (m : MethodId) (x0 : Int64) : entryFrame m #[(.long x0)] 4 = mkF m 0 #[.val (.long x0), .second, .unset, .unset] [] := by first | (simp [entryFrame, mkF, argsToLocals, Value.category]; done) | rfl
theorem own_pn3 : plainName "com/example/midpoint/midpoint/digits/PowersOfTen" = true := by first | (simp [plainName, overriddenIn]; done) | decide +kernel
set_option maxRecDepth 65536 in
set_option maxHeartbeats 40000000 in
theorem own_count (l : Launch) (Z : State) (a0 : Array Value) (hw : ∀ d ∈ tables_1, d.before a0 Z = true) (ws : List Jvm.Cond) (wa : Addr) (cl : Cell) (q1 : Int64) (h0 : Heap) (n0 : Nat) (O0 : Old Z n0 h0) (K : own_W Z wa cl) (hv : (0 : Int64) < q1) :
    MetFree l (⟨"com/example/midpoint/midpoint/digits/PowersOfTen", "digitCount", "(J)I"⟩ : MethodName) (head1 (Jvm.Cond.code (⟨"com/example/midpoint/midpoint/digits/PowersOfTen", "digitCount", "(J)I"⟩ : MethodName) prog_16_method_3_code 4 (some .int) :: ws) ({ frames := 2, cells := 0, slots := 0, locals := 29 } : Room)) (fun aa_ U_ => aa_ = #[(.long q1)] ∧ Z.Warmed39 U_.vm ∧ U_.heap = h0) (fun _ _ _ _ _ => True) (fun _ U_ oo_ UU_ => ∃ vv_ LL_, oo_ = .returned vv_ ∧ own_P (.int (own_dig q1)) h0 vv_ UU_.heap LL_ ∧ FrameEnd U_ oo_ UU_ LL_ ({ frames := 2, cells := 0, slots := 0, locals := 29 } : Room).cells ({ frames := 2, cells := 0, slots := 0, locals := 29 } : Room).slots) := by
  obtain ⟨S1, A1, C1, V1⟩ := K
  refine MetFree.of_bodySF (plainFor_of_name own_pn3) hisR ?_
  intro p e s m args below meth c s₁ Bd hml0 hP hK
  obtain ⟨rfl, hZ, hh⟩ := hP
  have hx := Bd.exec
  have hby := Bd.bytes
  have hml : c.maxLocals = 4 := hml0
  have hown : s.vm.findClass "com/example/midpoint/midpoint/digits/PowersOfTen" = some m.cls := findClass_of_methodNamed Bd.named
  have hnm := (name_of_methodNamed Bd.named Bd.method).1
  have X0 : Stand p l e ({ frames := 2, cells := 0, slots := 0, locals := 29 } : Room) s m #[(.long q1)] below meth c s₁ [] 0 0 := Stand.of_body Bd
  have e0 : s₁.heap = h0 := by rw [← hh, Bd.state]; rfl
  have N0 := Fr.nil n0
  have pre0 : ∀ t, Steps p.tables e below (s₁.setTop (mkF m 0 #[.val (.long q1), .second, .unset, .unset] [])) t → Steps p.tables e below (s₁.setTop (entryFrame m #[(.long q1)] 4)) t := fun t k => castTop (own_ef2 m q1) k
  obtain ⟨_, _, ⟨T1, L1, k1, n1⟩, -, X1, ⟨Lc1, hQ1, l1, y1, z1⟩, st1⟩ := Jvm.LawKit.callS X0 hx (y := (⟨"java/lang/Long", "numberOfLeadingZeros", "(J)I"⟩ : MethodName)) hown (mvT hZ (hw _ (List.mem_of_getElem? (i := 29) rfl))) (mvT hZ (hw _ (List.mem_of_getElem? (i := 30) rfl))) (mvT hZ (hw _ (List.mem_of_getElem? (i := 31) rfl))) (mvT hZ (hw _ (List.mem_of_getElem? (i := 32) rfl))) (by decide) (backOf (W := 1) (own_nlz64 l Z a0 hw [] q1 h0 n0 O0 hv) hZ (hw _ (List.mem_of_getElem? (i := 32) rfl)) (hw _ (List.mem_of_getElem? (i := 31) rfl)) (by decide) (by decide)) (g := (mkF m 3 #[.val (.long q1), .second, .unset, .unset] [(.long q1), (.int (64 : Int32))])) rfl (by rw [hml]; rfl) (argsL := [(.long q1)]) (rest := [(.int (64 : Int32))]) (lenOf own_pd1 rfl) rfl (by show 2 * 0 + _ ≤ _; exact Nat.le_of_eq rfl) (hb hby own_d2_3) (fun _ _ => ⟨rfl, e0, (by decide : 0 + 0 ≤ _), (by decide : 0 + 0 ≤ _)⟩)
  dsimp only [Pt.U, Pt.locs, Pt.cells, Pt.slots] at X1 l1 y1 z1 st1 hQ1
  subst l1 y1 z1
  obtain ⟨z1, rfl, rfl, e1, hz1⟩ := hQ1
  try rw [List.append_nil] at X1
  obtain ⟨t, ht, et, ea, eb⟩ := own_plain hz1
  obtain ⟨T2, X2, e2, st2⟩ := getS2 X1 hx hZ hown (host := "") (Or.inl (hw _ (List.mem_of_getElem? (i := 38) rfl))) Via.refl e1 (S1.ext O0.2) (g := (mkF m 18 #[.val (.long q1), .second, .val (.int ((64 : Int32) - z1)), .val (.int (Int32.ofNat t))] [(.long q1)])) rfl (hb hby own_d2_18)
  have hlt : (Int32.ofNat t).toNatClampNeg = t := own_ofNat ht
  have hin : ¬ ((Int32.ofNat t) < 0 ∨ cl.slots.size ≤ (Int32.ofNat t).toNatClampNeg) := own_in ht (by rw [C1])
  have hat : cl.slots[(Int32.ofNat t).toNatClampNeg]? = some (.long (own_pw t)) := by rw [hlt]; exact V1 t ht
  have Ar := A1.ext O0.2
  obtain ⟨T3, r, hv3, ⟨X3, e3⟩, st3⟩ : ∃ (T' : State) (r : Int32), (((lcmpW q1 (own_pw t)) < (0 : Int32) ∧ r = (Int32.ofNat t)) ∨ (¬ ((lcmpW q1 (own_pw t)) < (0 : Int32)) ∧ r = ((Int32.ofNat t) + (1 : Int32)))) ∧ own_Go X2 h0 T' ∧ ∀ target, Steps p.tables e below (T'.setTop (mkF m 34 #[.val (.long q1), .second, .val (.int ((64 : Int32) - z1)), .val (.int (Int32.ofNat t))] [(.int r)])) target → Steps p.tables e below (T2.setTop (mkF m 24 #[.val (.long q1), .second, .val (.int ((64 : Int32) - z1)), .val (.int (Int32.ofNat t))] [(.int (lcmpW q1 (own_pw t)))])) target := by
    by_cases hf3 : (lcmpW q1 (own_pw t)) < (0 : Int32)
    · refine ⟨T2, (Int32.ofNat t), Or.inl ⟨hf3, rfl⟩, ⟨X2, e2⟩, fun target kt => ?_⟩
      show Steps p.tables e below (T2.setTop (mkF m 24 #[.val (.long q1), .second, .val (.int ((64 : Int32) - z1)), .val (.int (Int32.ofNat t))] [(.int (lcmpW q1 (own_pw t)))])) _
      refine XS.ifYes X2.here hx rfl (pc0 := 24) (pc' := 33) rfl (hb hby own_d2_24) rfl ((if0 _ _).trans (tlt hf3).1) (by decide) (by decide) ?_
      show Steps p.tables e below (T2.setTop (mkF m 33 #[.val (.long q1), .second, .val (.int ((64 : Int32) - z1)), .val (.int (Int32.ofNat t))] [])) _
      refine XS.iloadN X2.here hx rfl (hb hby own_d2_33) rfl ?_
      show Steps p.tables e below (T2.setTop (mkF m 34 #[.val (.long q1), .second, .val (.int ((64 : Int32) - z1)), .val (.int (Int32.ofNat t))] [(.int (Int32.ofNat t))])) _
      exact kt
    · refine ⟨T2, ((Int32.ofNat t) + (1 : Int32)), Or.inr ⟨hf3, rfl⟩, ⟨X2, e2⟩, fun target kt => ?_⟩
      show Steps p.tables e below (T2.setTop (mkF m 24 #[.val (.long q1), .second, .val (.int ((64 : Int32) - z1)), .val (.int (Int32.ofNat t))] [(.int (lcmpW q1 (own_pw t)))])) _
      refine XS.ifNo X2.here hx rfl (hb hby own_d2_24) rfl ((if0 _ _).trans (flt hf3).1) ?_
      show Steps p.tables e below (T2.setTop (mkF m 27 #[.val (.long q1), .second, .val (.int ((64 : Int32) - z1)), .val (.int (Int32.ofNat t))] [])) _
      refine XS.iloadN X2.here hx rfl (hb hby own_d2_27) rfl ?_
      show Steps p.tables e below (T2.setTop (mkF m 28 #[.val (.long q1), .second, .val (.int ((64 : Int32) - z1)), .val (.int (Int32.ofNat t))] [(.int (Int32.ofNat t))])) _
      refine XS.iconst X2.here hx rfl (hb hby own_d2_28) ?_
      show Steps p.tables e below (T2.setTop (mkF m 29 #[.val (.long q1), .second, .val (.int ((64 : Int32) - z1)), .val (.int (Int32.ofNat t))] [(.int (1 : Int32)), (.int (Int32.ofNat t))])) _
      refine XS.iadd X2.here hx rfl (hb hby own_d2_29) rfl ?_
      show Steps p.tables e below (T2.setTop (mkF m 30 #[.val (.long q1), .second, .val (.int ((64 : Int32) - z1)), .val (.int (Int32.ofNat t))] [(.int ((Int32.ofNat t) + (1 : Int32)))])) _
      refine XS.goto X2.here hx rfl (pc0 := 30) (pc' := 34) rfl (hb hby own_d2_30) (by decide) (by decide) ?_
      show Steps p.tables e below (T2.setTop (mkF m 34 #[.val (.long q1), .second, .val (.int ((64 : Int32) - z1)), .val (.int (Int32.ofNat t))] [(.int ((Int32.ofNat t) + (1 : Int32)))])) _
      exact kt
  obtain ⟨fs, hr, hrun, hended, hW, hsame⟩ := X3.leave (v := some (.int r)) (fun h => by rw [Bd.returns] at h; cases h)
  refine ⟨_, _, pre0 _ ?_, hrun, hended, _, _, rfl, ?_, ⟨_, rfl⟩, hW, hsame.mono (by decide) (by decide)⟩
  · show Steps p.tables e below (s₁.setTop (mkF m 0 #[.val (.long q1), .second, .unset, .unset] [])) _
    refine XS.bipush X0.here hx rfl (hb hby own_d2_0) ?_
    show Steps p.tables e below (s₁.setTop (mkF m 2 #[.val (.long q1), .second, .unset, .unset] [(.int (64 : Int32))])) _
    refine XS.lloadN X0.here hx rfl (hb hby own_d2_2) rfl ?_
    show Steps p.tables e below (s₁.setTop (mkF m 3 #[.val (.long q1), .second, .unset, .unset] [(.long q1), (.int (64 : Int32))])) _
    refine st1 _ ?_
    show Steps p.tables e below (T1.setTop (mkF m 6 #[.val (.long q1), .second, .unset, .unset] [(.int z1), (.int (64 : Int32))])) _
    refine XS.isub X1.here hx rfl (hb hby own_d2_6) rfl ?_
    show Steps p.tables e below (T1.setTop (mkF m 7 #[.val (.long q1), .second, .unset, .unset] [(.int ((64 : Int32) - z1))])) _
    refine XS.istoreN X1.here hx rfl (hb hby own_d2_7) rfl (l' := #[.val (.long q1), .second, .val (.int ((64 : Int32) - z1)), .unset]) rfl ?_
    show Steps p.tables e below (T1.setTop (mkF m 8 #[.val (.long q1), .second, .val (.int ((64 : Int32) - z1)), .unset] [])) _
    refine XS.iloadN X1.here hx rfl (hb hby own_d2_8) rfl ?_
    show Steps p.tables e below (T1.setTop (mkF m 9 #[.val (.long q1), .second, .val (.int ((64 : Int32) - z1)), .unset] [(.int ((64 : Int32) - z1))])) _
    refine XS.sipush X1.here hx rfl (hb hby own_d2_9) ?_
    show Steps p.tables e below (T1.setTop (mkF m 12 #[.val (.long q1), .second, .val (.int ((64 : Int32) - z1)), .unset] [(.int (1233 : Int32)), (.int ((64 : Int32) - z1))])) _
    refine XS.imul X1.here hx rfl (hb hby own_d2_12) rfl ?_
    show Steps p.tables e below (T1.setTop (mkF m 13 #[.val (.long q1), .second, .val (.int ((64 : Int32) - z1)), .unset] [(.int (((64 : Int32) - z1) * (1233 : Int32)))])) _
    refine XS.bipush X1.here hx rfl (hb hby own_d2_13) ?_
    show Steps p.tables e below (T1.setTop (mkF m 15 #[.val (.long q1), .second, .val (.int ((64 : Int32) - z1)), .unset] [(.int (12 : Int32)), (.int (((64 : Int32) - z1) * (1233 : Int32)))])) _
    refine XS.iushr X1.here hx rfl (hb hby own_d2_15) rfl ?_
    show Steps p.tables e below (T1.setTop (mkF m 16 #[.val (.long q1), .second, .val (.int ((64 : Int32) - z1)), .unset] [(.int (((((64 : Int32) - z1) * (1233 : Int32)).toUInt32 >>> ((12 : Int32) &&& 31).toUInt32).toInt32))])) _
    refine XS.istoreN X1.here hx rfl (hb hby own_d2_16) rfl (l' := #[.val (.long q1), .second, .val (.int ((64 : Int32) - z1)), .val (.int (((((64 : Int32) - z1) * (1233 : Int32)).toUInt32 >>> ((12 : Int32) &&& 31).toUInt32).toInt32))]) rfl ?_
    show Steps p.tables e below (T1.setTop (mkF m 17 #[.val (.long q1), .second, .val (.int ((64 : Int32) - z1)), .val (.int (((((64 : Int32) - z1) * (1233 : Int32)).toUInt32 >>> ((12 : Int32) &&& 31).toUInt32).toInt32))] [])) _
    rw [et]
    show Steps p.tables e below (T1.setTop (mkF m 17 #[.val (.long q1), .second, .val (.int ((64 : Int32) - z1)), .val (.int (Int32.ofNat t))] [])) _
    refine XS.lloadN X1.here hx rfl (hb hby own_d2_17) rfl ?_
    show Steps p.tables e below (T1.setTop (mkF m 18 #[.val (.long q1), .second, .val (.int ((64 : Int32) - z1)), .val (.int (Int32.ofNat t))] [(.long q1)])) _
    refine st2 _ ?_
    show Steps p.tables e below (T2.setTop (mkF m 21 #[.val (.long q1), .second, .val (.int ((64 : Int32) - z1)), .val (.int (Int32.ofNat t))] [(.ref wa), (.long q1)])) _
    refine XS.iloadN X2.here hx rfl (hb hby own_d2_21) rfl ?_
    show Steps p.tables e below (T2.setTop (mkF m 22 #[.val (.long q1), .second, .val (.int ((64 : Int32) - z1)), .val (.int (Int32.ofNat t))] [(.int (Int32.ofNat t)), (.ref wa), (.long q1)])) _
    refine X2.laload hx (j := (Int32.ofNat t)) (v := (.long (own_pw t))) (by rw [e2]; exact Ar.1) (State.isArrayOf_alike hZ.alike Ar.2.1) Ar.2.2 hin hat (g := (mkF m 22 #[.val (.long q1), .second, .val (.int ((64 : Int32) - z1)), .val (.int (Int32.ofNat t))] [(.int (Int32.ofNat t)), (.ref wa), (.long q1)])) rfl rfl (hb hby own_d2_22) _ ?_
    show Steps p.tables e below (T2.setTop (mkF m 23 #[.val (.long q1), .second, .val (.int ((64 : Int32) - z1)), .val (.int (Int32.ofNat t))] [(.long (own_pw t)), (.long q1)])) _
    refine XS.lcmp X2.here hx rfl (hb hby own_d2_23) rfl ?_
    refine st3 _ ?_
    show Steps p.tables e below (T3.setTop (mkF m 34 #[.val (.long q1), .second, .val (.int ((64 : Int32) - z1)), .val (.int (Int32.ofNat t))] [(.int r)])) _
    exact retI X3 hx Bd.returns (hb hby own_d2_34) hr
  · show own_P (.int (own_dig q1)) h0 _ T3.heap _
    rw [e3]
    have hd : r = own_dig q1 := by
      rcases hv3 with ⟨q, e⟩ | ⟨q, e⟩
      · rw [e, ea ((lw_lt _ _).mp q)]
      · rw [e, eb (fun u => q ((lw_lt _ _).mpr u))]
    exact ⟨by rw [hd], rfl, rfl⟩
def own_AL (c : Cell) : Prop := c.slots.size = 19 ∧ ∀ i, i < 19 → ∃ w, c.slots[i]? = some (.long w)
theorem own_AL_new (k : ClassId) : own_AL (newA k .long (19 : Int32)) := ⟨by rw [sz_new]; decide, fun i hi => ⟨0, by
  have e : (19 : Int32).toNatClampNeg = 19 := by decide
  simp [newA, e, hi, defaultValue]⟩⟩
theorem own_AL_set {c : Cell} (A : own_AL c) (j : Nat) (x : Int64) : own_AL (c.setSlot j (.long x)) := ⟨by rw [sz_set]; exact A.1, fun i hi => by
  obtain ⟨w, hw⟩ := A.2 i hi
  by_cases e : j = i
  · subst e; exact ⟨x, by simp [Cell.setSlot, A.1, hi]⟩
  · exact ⟨w, by simp only [Cell.setSlot]; rw [Array.getElem?_setIfInBounds_ne e]; exact hw⟩⟩
def own_Qp (Z : State) (n0 : Nat) (v : Option Value) (h : Heap) (L : List Loc) : Prop := ∃ w : Int64, v = some (.long w) ∧ Fr n0 L ∧ Old Z n0 h
theorem own_d1_0 : decode method_3_code 0 = .ok (.bipush 19, 2) := by decide +kernel
theorem own_d1_2 : decode method_3_code 2 = .ok (.newarray .long, 2) := by decide +kernel
theorem own_d1_4 : decode method_3_code 4 = .ok (.dup, 1) := by decide +kernel
theorem own_d1_5 : decode method_3_code 5 = .ok (.iconst 0, 1) := by decide +kernel
theorem own_d1_6 : decode method_3_code 6 = .ok (.lconst 1, 1) := by decide +kernel
theorem own_d1_7 : decode method_3_code 7 = .ok (.lastore, 1) := by decide +kernel
theorem own_d1_8 : decode method_3_code 8 = .ok (.dup, 1) := by decide +kernel
theorem own_d1_9 : decode method_3_code 9 = .ok (.iconst 1, 1) := by decide +kernel
theorem own_d1_10 : decode method_3_code 10 = .ok (.ldc2_w 27, 3) := by decide +kernel
theorem own_d1_13 : decode method_3_code 13 = .ok (.lastore, 1) := by decide +kernel
theorem own_d1_14 : decode method_3_code 14 = .ok (.dup, 1) := by decide +kernel
theorem own_d1_15 : decode method_3_code 15 = .ok (.iconst 2, 1) := by decide +kernel
theorem own_d1_16 : decode method_3_code 16 = .ok (.ldc2_w 29, 3) := by decide +kernel
theorem own_d1_19 : decode method_3_code 19 = .ok (.lastore, 1) := by decide +kernel
theorem own_d1_20 : decode method_3_code 20 = .ok (.dup, 1) := by decide +kernel
theorem own_d1_21 : decode method_3_code 21 = .ok (.iconst 3, 1) := by decide +kernel
theorem own_d1_22 : decode method_3_code 22 = .ok (.ldc2_w 31, 3) := by decide +kernel
theorem own_d1_25 : decode method_3_code 25 = .ok (.lastore, 1) := by decide +kernel
theorem own_d1_26 : decode method_3_code 26 = .ok (.dup, 1) := by decide +kernel
theorem own_d1_27 : decode method_3_code 27 = .ok (.iconst 4, 1) := by decide +kernel
theorem own_d1_28 : decode method_3_code 28 = .ok (.ldc2_w 33, 3) := by decide +kernel
theorem own_d1_31 : decode method_3_code 31 = .ok (.lastore, 1) := by decide +kernel
theorem own_d1_32 : decode method_3_code 32 = .ok (.dup, 1) := by decide +kernel
theorem own_d1_33 : decode method_3_code 33 = .ok (.iconst 5, 1) := by decide +kernel
theorem own_d1_34 : decode method_3_code 34 = .ok (.ldc2_w 35, 3) := by decide +kernel
theorem own_d1_37 : decode method_3_code 37 = .ok (.lastore, 1) := by decide +kernel
theorem own_d1_38 : decode method_3_code 38 = .ok (.dup, 1) := by decide +kernel
theorem own_d1_39 : decode method_3_code 39 = .ok (.bipush 6, 2) := by decide +kernel
theorem own_d1_41 : decode method_3_code 41 = .ok (.ldc2_w 37, 3) := by decide +kernel
theorem own_d1_44 : decode method_3_code 44 = .ok (.lastore, 1) := by decide +kernel
theorem own_d1_45 : decode method_3_code 45 = .ok (.dup, 1) := by decide +kernel
theorem own_d1_46 : decode method_3_code 46 = .ok (.bipush 7, 2) := by decide +kernel
theorem own_d1_48 : decode method_3_code 48 = .ok (.ldc2_w 39, 3) := by decide +kernel
theorem own_d1_51 : decode method_3_code 51 = .ok (.lastore, 1) := by decide +kernel
theorem own_d1_52 : decode method_3_code 52 = .ok (.dup, 1) := by decide +kernel
theorem own_d1_53 : decode method_3_code 53 = .ok (.bipush 8, 2) := by decide +kernel
theorem own_d1_55 : decode method_3_code 55 = .ok (.ldc2_w 41, 3) := by decide +kernel
theorem own_d1_58 : decode method_3_code 58 = .ok (.lastore, 1) := by decide +kernel
theorem own_d1_59 : decode method_3_code 59 = .ok (.dup, 1) := by decide +kernel
theorem own_d1_60 : decode method_3_code 60 = .ok (.bipush 9, 2) := by decide +kernel
theorem own_d1_62 : decode method_3_code 62 = .ok (.ldc2_w 43, 3) := by decide +kernel
theorem own_d1_65 : decode method_3_code 65 = .ok (.lastore, 1) := by decide +kernel
theorem own_d1_66 : decode method_3_code 66 = .ok (.dup, 1) := by decide +kernel
theorem own_d1_67 : decode method_3_code 67 = .ok (.bipush 10, 2) := by decide +kernel
theorem own_d1_69 : decode method_3_code 69 = .ok (.ldc2_w 45, 3) := by decide +kernel
theorem own_d1_72 : decode method_3_code 72 = .ok (.lastore, 1) := by decide +kernel
theorem own_d1_73 : decode method_3_code 73 = .ok (.dup, 1) := by decide +kernel
theorem own_d1_74 : decode method_3_code 74 = .ok (.bipush 11, 2) := by decide +kernel
theorem own_d1_76 : decode method_3_code 76 = .ok (.ldc2_w 47, 3) := by decide +kernel
theorem own_d1_79 : decode method_3_code 79 = .ok (.lastore, 1) := by decide +kernel
theorem own_d1_80 : decode method_3_code 80 = .ok (.dup, 1) := by decide +kernel
theorem own_d1_81 : decode method_3_code 81 = .ok (.bipush 12, 2) := by decide +kernel
theorem own_d1_83 : decode method_3_code 83 = .ok (.ldc2_w 49, 3) := by decide +kernel
theorem own_d1_86 : decode method_3_code 86 = .ok (.lastore, 1) := by decide +kernel
theorem own_d1_87 : decode method_3_code 87 = .ok (.dup, 1) := by decide +kernel
theorem own_d1_88 : decode method_3_code 88 = .ok (.bipush 13, 2) := by decide +kernel
theorem own_d1_90 : decode method_3_code 90 = .ok (.ldc2_w 51, 3) := by decide +kernel
theorem own_d1_93 : decode method_3_code 93 = .ok (.lastore, 1) := by decide +kernel
theorem own_d1_94 : decode method_3_code 94 = .ok (.dup, 1) := by decide +kernel
theorem own_d1_95 : decode method_3_code 95 = .ok (.bipush 14, 2) := by decide +kernel
theorem own_d1_97 : decode method_3_code 97 = .ok (.ldc2_w 53, 3) := by decide +kernel
theorem own_d1_100 : decode method_3_code 100 = .ok (.lastore, 1) := by decide +kernel
theorem own_d1_101 : decode method_3_code 101 = .ok (.dup, 1) := by decide +kernel
theorem own_d1_102 : decode method_3_code 102 = .ok (.bipush 15, 2) := by decide +kernel
theorem own_d1_104 : decode method_3_code 104 = .ok (.ldc2_w 55, 3) := by decide +kernel
theorem own_d1_107 : decode method_3_code 107 = .ok (.lastore, 1) := by decide +kernel
theorem own_d1_108 : decode method_3_code 108 = .ok (.dup, 1) := by decide +kernel
theorem own_d1_109 : decode method_3_code 109 = .ok (.bipush 16, 2) := by decide +kernel
theorem own_d1_111 : decode method_3_code 111 = .ok (.ldc2_w 57, 3) := by decide +kernel
theorem own_d1_114 : decode method_3_code 114 = .ok (.lastore, 1) := by decide +kernel
theorem own_d1_115 : decode method_3_code 115 = .ok (.dup, 1) := by decide +kernel
theorem own_d1_116 : decode method_3_code 116 = .ok (.bipush 17, 2) := by decide +kernel
theorem own_d1_118 : decode method_3_code 118 = .ok (.ldc2_w 59, 3) := by decide +kernel
theorem own_d1_121 : decode method_3_code 121 = .ok (.lastore, 1) := by decide +kernel
theorem own_d1_122 : decode method_3_code 122 = .ok (.dup, 1) := by decide +kernel
theorem own_d1_123 : decode method_3_code 123 = .ok (.bipush 18, 2) := by decide +kernel
theorem own_d1_125 : decode method_3_code 125 = .ok (.ldc2_w 61, 3) := by decide +kernel
theorem own_d1_128 : decode method_3_code 128 = .ok (.lastore, 1) := by decide +kernel
theorem own_d1_129 : decode method_3_code 129 = .ok (.astore_n 1, 1) := by decide +kernel
theorem own_d1_130 : decode method_3_code 130 = .ok (.aload_n 1, 1) := by decide +kernel
theorem own_d1_131 : decode method_3_code 131 = .ok (.iload_n 0, 1) := by decide +kernel
theorem own_d1_132 : decode method_3_code 132 = .ok (.laload, 1) := by decide +kernel
theorem own_d1_133 : decode method_3_code 133 = .ok (.lreturn, 1) := by decide +kernel
theorem own_ef1 (m : MethodId) (x0 : Int32) : entryFrame m #[(.int x0)] 2 = mkF m 0 #[.val (.int x0), .unset] [] := by first | (simp [entryFrame, mkF, argsToLocals, Value.category]; done) | rfl
set_option maxRecDepth 65536 in
set_option maxHeartbeats 40000000 in
theorem own_pow10 (l : Launch) (Z : State) (a0 : Array Value) (hw : ∀ d ∈ tables_1, d.before a0 Z = true) (ws : List Jvm.Cond) (p1 : Int32) (h0 : Heap) (n0 : Nat) (O0 : Old Z n0 h0) (hp : 0 ≤ p1.toInt ∧ p1.toInt < 19) :
    MetFree l (⟨"com/example/midpoint/midpoint/digits/PowersOfTenDigitCountPinLaw", "pow10", "(I)J"⟩ : MethodName) (head1 (Jvm.Cond.code (⟨"com/example/midpoint/midpoint/digits/PowersOfTenDigitCountPinLaw", "pow10", "(I)J"⟩ : MethodName) method_3_code 2 (some .long) :: ws) ({ frames := 0, cells := 1, slots := 19, locals := 0 } : Room)) (fun aa_ U_ => aa_ = #[(.int p1)] ∧ Z.Warmed39 U_.vm ∧ U_.heap = h0) (fun _ _ _ _ _ => True) (fun _ U_ oo_ UU_ => ∃ vv_ LL_, oo_ = .returned vv_ ∧ own_Qp Z n0 vv_ UU_.heap LL_ ∧ FrameEnd U_ oo_ UU_ LL_ ({ frames := 0, cells := 1, slots := 19, locals := 0 } : Room).cells ({ frames := 0, cells := 1, slots := 19, locals := 0 } : Room).slots) := by
  refine MetFree.of_bodySF (plainFor_of_name own_pn2) hisR ?_
  intro p e s m args below meth c s₁ Bd hml0 hP hK
  obtain ⟨rfl, hZ, hh⟩ := hP
  have hx := Bd.exec
  have hby := Bd.bytes
  have hml : c.maxLocals = 2 := hml0
  have hown : s.vm.findClass "com/example/midpoint/midpoint/digits/PowersOfTenDigitCountPinLaw" = some m.cls := findClass_of_methodNamed Bd.named
  have hnm := (name_of_methodNamed Bd.named Bd.method).1
  have X0 : Stand p l e ({ frames := 0, cells := 1, slots := 19, locals := 0 } : Room) s m #[(.int p1)] below meth c s₁ [] 0 0 := Stand.of_body Bd
  have e0 : s₁.heap = h0 := by rw [← hh, Bd.state]; rfl
  have N0 := Fr.nil n0
  have pre0 : ∀ t, Steps p.tables e below (s₁.setTop (mkF m 0 #[.val (.int p1), .unset] [])) t → Steps p.tables e below (s₁.setTop (entryFrame m #[(.int p1)] 2)) t := fun t k => castTop (own_ef1 m p1) k
  obtain ⟨T1, h1, k1, X1, e1, E1, A1, st1⟩ := newP X0 hx hZ (hw _ (List.mem_of_getElem? (i := 6) rfl)) e0 (g := (mkF m 2 #[.val (.int p1), .unset] [(.int (19 : Int32))])) rfl (hb hby own_d1_2) rfl (by decide) (cap := 19) (by decide) (by decide) (by decide) (by decide)
  obtain ⟨b1, g1⟩ : ∃ z, z = h0.size := ⟨_, rfl⟩
  have g_b1 : n0 ≤ b1 := Nat.le_trans (Nat.le_trans (Nat.le_of_eq O0.1.symm) O0.2.1) (Nat.le_of_eq g1.symm)
  rw [← g1] at A1 st1
  have O1 := O0.ext E1
  obtain ⟨cl0, A0, AL0⟩ : ∃ c, Arr Z h1 b1 c .long ∧ own_AL c := ⟨_, A1, own_AL_new _⟩
  have hin2 : ¬ ((0 : Int32) < 0 ∨ cl0.slots.size ≤ (0 : Int32).toNatClampNeg) := by rw [AL0.1]; decide
  obtain ⟨T2, h2, X2, e2, W2, st2⟩ := stJ X1 hx hZ e1 A0 (j := (0 : Int32)) hin2 (g := (mkF m 7 #[.val (.int p1), .unset] [(.long (1 : Int64)), (.int (0 : Int32)), (.ref b1), (.ref b1)])) rfl rfl (hb hby own_d1_7)
  have f2_A_b1 := A0.same W2
  have O2 := O1.wr W2 g_b1
  obtain ⟨cl2, A2, AL2⟩ : ∃ c, Arr Z h2 b1 c .long ∧ own_AL c := ⟨_, f2_A_b1, own_AL_set AL0 _ _⟩
  have N2 := Fr.snoc X2 N0 g_b1
  have hin3 : ¬ ((1 : Int32) < 0 ∨ cl2.slots.size ≤ (1 : Int32).toNatClampNeg) := by rw [AL2.1]; decide
  obtain ⟨T3, h3, X3, e3, W3, st3⟩ := stJ X2 hx hZ e2 A2 (j := (1 : Int32)) hin3 (g := (mkF m 13 #[.val (.int p1), .unset] [(.long (10 : Int64)), (.int (1 : Int32)), (.ref b1), (.ref b1)])) rfl rfl (hb hby own_d1_13)
  have f3_A_b1 := A2.same W3
  have O3 := O2.wr W3 g_b1
  obtain ⟨cl3, A3, AL3⟩ : ∃ c, Arr Z h3 b1 c .long ∧ own_AL c := ⟨_, f3_A_b1, own_AL_set AL2 _ _⟩
  have N3 := Fr.snoc X3 N2 g_b1
  have hin4 : ¬ ((2 : Int32) < 0 ∨ cl3.slots.size ≤ (2 : Int32).toNatClampNeg) := by rw [AL3.1]; decide
  obtain ⟨T4, h4, X4, e4, W4, st4⟩ := stJ X3 hx hZ e3 A3 (j := (2 : Int32)) hin4 (g := (mkF m 19 #[.val (.int p1), .unset] [(.long (100 : Int64)), (.int (2 : Int32)), (.ref b1), (.ref b1)])) rfl rfl (hb hby own_d1_19)
  have f4_A_b1 := A3.same W4
  have O4 := O3.wr W4 g_b1
  obtain ⟨cl4, A4, AL4⟩ : ∃ c, Arr Z h4 b1 c .long ∧ own_AL c := ⟨_, f4_A_b1, own_AL_set AL3 _ _⟩
  have N4 := Fr.snoc X4 N3 g_b1
  have hin5 : ¬ ((3 : Int32) < 0 ∨ cl4.slots.size ≤ (3 : Int32).toNatClampNeg) := by rw [AL4.1]; decide
  obtain ⟨T5, h5, X5, e5, W5, st5⟩ := stJ X4 hx hZ e4 A4 (j := (3 : Int32)) hin5 (g := (mkF m 25 #[.val (.int p1), .unset] [(.long (1000 : Int64)), (.int (3 : Int32)), (.ref b1), (.ref b1)])) rfl rfl (hb hby own_d1_25)
  have f5_A_b1 := A4.same W5
  have O5 := O4.wr W5 g_b1
  obtain ⟨cl5, A5, AL5⟩ : ∃ c, Arr Z h5 b1 c .long ∧ own_AL c := ⟨_, f5_A_b1, own_AL_set AL4 _ _⟩
  have N5 := Fr.snoc X5 N4 g_b1
  have hin6 : ¬ ((4 : Int32) < 0 ∨ cl5.slots.size ≤ (4 : Int32).toNatClampNeg) := by rw [AL5.1]; decide
  obtain ⟨T6, h6, X6, e6, W6, st6⟩ := stJ X5 hx hZ e5 A5 (j := (4 : Int32)) hin6 (g := (mkF m 31 #[.val (.int p1), .unset] [(.long (10000 : Int64)), (.int (4 : Int32)), (.ref b1), (.ref b1)])) rfl rfl (hb hby own_d1_31)
  have f6_A_b1 := A5.same W6
  have O6 := O5.wr W6 g_b1
  obtain ⟨cl6, A6, AL6⟩ : ∃ c, Arr Z h6 b1 c .long ∧ own_AL c := ⟨_, f6_A_b1, own_AL_set AL5 _ _⟩
  have N6 := Fr.snoc X6 N5 g_b1
  have hin7 : ¬ ((5 : Int32) < 0 ∨ cl6.slots.size ≤ (5 : Int32).toNatClampNeg) := by rw [AL6.1]; decide
  obtain ⟨T7, h7, X7, e7, W7, st7⟩ := stJ X6 hx hZ e6 A6 (j := (5 : Int32)) hin7 (g := (mkF m 37 #[.val (.int p1), .unset] [(.long (100000 : Int64)), (.int (5 : Int32)), (.ref b1), (.ref b1)])) rfl rfl (hb hby own_d1_37)
  have f7_A_b1 := A6.same W7
  have O7 := O6.wr W7 g_b1
  obtain ⟨cl7, A7, AL7⟩ : ∃ c, Arr Z h7 b1 c .long ∧ own_AL c := ⟨_, f7_A_b1, own_AL_set AL6 _ _⟩
  have N7 := Fr.snoc X7 N6 g_b1
  have hin8 : ¬ ((6 : Int32) < 0 ∨ cl7.slots.size ≤ (6 : Int32).toNatClampNeg) := by rw [AL7.1]; decide
  obtain ⟨T8, h8, X8, e8, W8, st8⟩ := stJ X7 hx hZ e7 A7 (j := (6 : Int32)) hin8 (g := (mkF m 44 #[.val (.int p1), .unset] [(.long (1000000 : Int64)), (.int (6 : Int32)), (.ref b1), (.ref b1)])) rfl rfl (hb hby own_d1_44)
  have f8_A_b1 := A7.same W8
  have O8 := O7.wr W8 g_b1
  obtain ⟨cl8, A8, AL8⟩ : ∃ c, Arr Z h8 b1 c .long ∧ own_AL c := ⟨_, f8_A_b1, own_AL_set AL7 _ _⟩
  have N8 := Fr.snoc X8 N7 g_b1
  have hin9 : ¬ ((7 : Int32) < 0 ∨ cl8.slots.size ≤ (7 : Int32).toNatClampNeg) := by rw [AL8.1]; decide
  obtain ⟨T9, h9, X9, e9, W9, st9⟩ := stJ X8 hx hZ e8 A8 (j := (7 : Int32)) hin9 (g := (mkF m 51 #[.val (.int p1), .unset] [(.long (10000000 : Int64)), (.int (7 : Int32)), (.ref b1), (.ref b1)])) rfl rfl (hb hby own_d1_51)
  have f9_A_b1 := A8.same W9
  have O9 := O8.wr W9 g_b1
  obtain ⟨cl9, A9, AL9⟩ : ∃ c, Arr Z h9 b1 c .long ∧ own_AL c := ⟨_, f9_A_b1, own_AL_set AL8 _ _⟩
  have N9 := Fr.snoc X9 N8 g_b1
  have hin10 : ¬ ((8 : Int32) < 0 ∨ cl9.slots.size ≤ (8 : Int32).toNatClampNeg) := by rw [AL9.1]; decide
  obtain ⟨T10, h10, X10, e10, W10, st10⟩ := stJ X9 hx hZ e9 A9 (j := (8 : Int32)) hin10 (g := (mkF m 58 #[.val (.int p1), .unset] [(.long (100000000 : Int64)), (.int (8 : Int32)), (.ref b1), (.ref b1)])) rfl rfl (hb hby own_d1_58)
  have f10_A_b1 := A9.same W10
  have O10 := O9.wr W10 g_b1
  obtain ⟨cl10, A10, AL10⟩ : ∃ c, Arr Z h10 b1 c .long ∧ own_AL c := ⟨_, f10_A_b1, own_AL_set AL9 _ _⟩
  have N10 := Fr.snoc X10 N9 g_b1
  have hin11 : ¬ ((9 : Int32) < 0 ∨ cl10.slots.size ≤ (9 : Int32).toNatClampNeg) := by rw [AL10.1]; decide
  obtain ⟨T11, h11, X11, e11, W11, st11⟩ := stJ X10 hx hZ e10 A10 (j := (9 : Int32)) hin11 (g := (mkF m 65 #[.val (.int p1), .unset] [(.long (1000000000 : Int64)), (.int (9 : Int32)), (.ref b1), (.ref b1)])) rfl rfl (hb hby own_d1_65)
  have f11_A_b1 := A10.same W11
  have O11 := O10.wr W11 g_b1
  obtain ⟨cl11, A11, AL11⟩ : ∃ c, Arr Z h11 b1 c .long ∧ own_AL c := ⟨_, f11_A_b1, own_AL_set AL10 _ _⟩
  have N11 := Fr.snoc X11 N10 g_b1
  have hin12 : ¬ ((10 : Int32) < 0 ∨ cl11.slots.size ≤ (10 : Int32).toNatClampNeg) := by rw [AL11.1]; decide
  obtain ⟨T12, h12, X12, e12, W12, st12⟩ := stJ X11 hx hZ e11 A11 (j := (10 : Int32)) hin12 (g := (mkF m 72 #[.val (.int p1), .unset] [(.long (10000000000 : Int64)), (.int (10 : Int32)), (.ref b1), (.ref b1)])) rfl rfl (hb hby own_d1_72)
  have f12_A_b1 := A11.same W12
  have O12 := O11.wr W12 g_b1
  obtain ⟨cl12, A12, AL12⟩ : ∃ c, Arr Z h12 b1 c .long ∧ own_AL c := ⟨_, f12_A_b1, own_AL_set AL11 _ _⟩
  have N12 := Fr.snoc X12 N11 g_b1
  have hin13 : ¬ ((11 : Int32) < 0 ∨ cl12.slots.size ≤ (11 : Int32).toNatClampNeg) := by rw [AL12.1]; decide
  obtain ⟨T13, h13, X13, e13, W13, st13⟩ := stJ X12 hx hZ e12 A12 (j := (11 : Int32)) hin13 (g := (mkF m 79 #[.val (.int p1), .unset] [(.long (100000000000 : Int64)), (.int (11 : Int32)), (.ref b1), (.ref b1)])) rfl rfl (hb hby own_d1_79)
  have f13_A_b1 := A12.same W13
  have O13 := O12.wr W13 g_b1
  obtain ⟨cl13, A13, AL13⟩ : ∃ c, Arr Z h13 b1 c .long ∧ own_AL c := ⟨_, f13_A_b1, own_AL_set AL12 _ _⟩
  have N13 := Fr.snoc X13 N12 g_b1
  have hin14 : ¬ ((12 : Int32) < 0 ∨ cl13.slots.size ≤ (12 : Int32).toNatClampNeg) := by rw [AL13.1]; decide
  obtain ⟨T14, h14, X14, e14, W14, st14⟩ := stJ X13 hx hZ e13 A13 (j := (12 : Int32)) hin14 (g := (mkF m 86 #[.val (.int p1), .unset] [(.long (1000000000000 : Int64)), (.int (12 : Int32)), (.ref b1), (.ref b1)])) rfl rfl (hb hby own_d1_86)
  have f14_A_b1 := A13.same W14
  have O14 := O13.wr W14 g_b1
  obtain ⟨cl14, A14, AL14⟩ : ∃ c, Arr Z h14 b1 c .long ∧ own_AL c := ⟨_, f14_A_b1, own_AL_set AL13 _ _⟩
  have N14 := Fr.snoc X14 N13 g_b1
  have hin15 : ¬ ((13 : Int32) < 0 ∨ cl14.slots.size ≤ (13 : Int32).toNatClampNeg) := by rw [AL14.1]; decide
  obtain ⟨T15, h15, X15, e15, W15, st15⟩ := stJ X14 hx hZ e14 A14 (j := (13 : Int32)) hin15 (g := (mkF m 93 #[.val (.int p1), .unset] [(.long (10000000000000 : Int64)), (.int (13 : Int32)), (.ref b1), (.ref b1)])) rfl rfl (hb hby own_d1_93)
  have f15_A_b1 := A14.same W15
  have O15 := O14.wr W15 g_b1
  obtain ⟨cl15, A15, AL15⟩ : ∃ c, Arr Z h15 b1 c .long ∧ own_AL c := ⟨_, f15_A_b1, own_AL_set AL14 _ _⟩
  have N15 := Fr.snoc X15 N14 g_b1
  have hin16 : ¬ ((14 : Int32) < 0 ∨ cl15.slots.size ≤ (14 : Int32).toNatClampNeg) := by rw [AL15.1]; decide
  obtain ⟨T16, h16, X16, e16, W16, st16⟩ := stJ X15 hx hZ e15 A15 (j := (14 : Int32)) hin16 (g := (mkF m 100 #[.val (.int p1), .unset] [(.long (100000000000000 : Int64)), (.int (14 : Int32)), (.ref b1), (.ref b1)])) rfl rfl (hb hby own_d1_100)
  have f16_A_b1 := A15.same W16
  have O16 := O15.wr W16 g_b1
  obtain ⟨cl16, A16, AL16⟩ : ∃ c, Arr Z h16 b1 c .long ∧ own_AL c := ⟨_, f16_A_b1, own_AL_set AL15 _ _⟩
  have N16 := Fr.snoc X16 N15 g_b1
  have hin17 : ¬ ((15 : Int32) < 0 ∨ cl16.slots.size ≤ (15 : Int32).toNatClampNeg) := by rw [AL16.1]; decide
  obtain ⟨T17, h17, X17, e17, W17, st17⟩ := stJ X16 hx hZ e16 A16 (j := (15 : Int32)) hin17 (g := (mkF m 107 #[.val (.int p1), .unset] [(.long (1000000000000000 : Int64)), (.int (15 : Int32)), (.ref b1), (.ref b1)])) rfl rfl (hb hby own_d1_107)
  have f17_A_b1 := A16.same W17
  have O17 := O16.wr W17 g_b1
  obtain ⟨cl17, A17, AL17⟩ : ∃ c, Arr Z h17 b1 c .long ∧ own_AL c := ⟨_, f17_A_b1, own_AL_set AL16 _ _⟩
  have N17 := Fr.snoc X17 N16 g_b1
  have hin18 : ¬ ((16 : Int32) < 0 ∨ cl17.slots.size ≤ (16 : Int32).toNatClampNeg) := by rw [AL17.1]; decide
  obtain ⟨T18, h18, X18, e18, W18, st18⟩ := stJ X17 hx hZ e17 A17 (j := (16 : Int32)) hin18 (g := (mkF m 114 #[.val (.int p1), .unset] [(.long (10000000000000000 : Int64)), (.int (16 : Int32)), (.ref b1), (.ref b1)])) rfl rfl (hb hby own_d1_114)
  have f18_A_b1 := A17.same W18
  have O18 := O17.wr W18 g_b1
  obtain ⟨cl18, A18, AL18⟩ : ∃ c, Arr Z h18 b1 c .long ∧ own_AL c := ⟨_, f18_A_b1, own_AL_set AL17 _ _⟩
  have N18 := Fr.snoc X18 N17 g_b1
  have hin19 : ¬ ((17 : Int32) < 0 ∨ cl18.slots.size ≤ (17 : Int32).toNatClampNeg) := by rw [AL18.1]; decide
  obtain ⟨T19, h19, X19, e19, W19, st19⟩ := stJ X18 hx hZ e18 A18 (j := (17 : Int32)) hin19 (g := (mkF m 121 #[.val (.int p1), .unset] [(.long (100000000000000000 : Int64)), (.int (17 : Int32)), (.ref b1), (.ref b1)])) rfl rfl (hb hby own_d1_121)
  have f19_A_b1 := A18.same W19
  have O19 := O18.wr W19 g_b1
  obtain ⟨cl19, A19, AL19⟩ : ∃ c, Arr Z h19 b1 c .long ∧ own_AL c := ⟨_, f19_A_b1, own_AL_set AL18 _ _⟩
  have N19 := Fr.snoc X19 N18 g_b1
  have hin20 : ¬ ((18 : Int32) < 0 ∨ cl19.slots.size ≤ (18 : Int32).toNatClampNeg) := by rw [AL19.1]; decide
  obtain ⟨T20, h20, X20, e20, W20, st20⟩ := stJ X19 hx hZ e19 A19 (j := (18 : Int32)) hin20 (g := (mkF m 128 #[.val (.int p1), .unset] [(.long (1000000000000000000 : Int64)), (.int (18 : Int32)), (.ref b1), (.ref b1)])) rfl rfl (hb hby own_d1_128)
  have f20_A_b1 := A19.same W20
  have O20 := O19.wr W20 g_b1
  obtain ⟨cl20, A20, AL20⟩ : ∃ c, Arr Z h20 b1 c .long ∧ own_AL c := ⟨_, f20_A_b1, own_AL_set AL19 _ _⟩
  have N20 := Fr.snoc X20 N19 g_b1
  have hin : ¬ (p1 < 0 ∨ cl20.slots.size ≤ p1.toNatClampNeg) := by rw [AL20.1, Int32.lt_iff_toInt_lt, show (0 : Int32).toInt = 0 from by decide]; simp only [Int32.toNatClampNeg]; omega
  obtain ⟨wv, hat⟩ := AL20.2 p1.toNatClampNeg (by simp only [Int32.toNatClampNeg]; omega)
  obtain ⟨fs, hr, hrun, hended, hW, hsame⟩ := X20.leave (v := some (.long wv)) (fun h => by rw [Bd.returns] at h; cases h)
  refine ⟨_, _, pre0 _ ?_, hrun, hended, _, _, rfl, ?_, ⟨_, rfl⟩, hW, hsame.mono (by decide) (by decide)⟩
  · show Steps p.tables e below (s₁.setTop (mkF m 0 #[.val (.int p1), .unset] [])) _
    refine XS.bipush X0.here hx rfl (hb hby own_d1_0) ?_
    show Steps p.tables e below (s₁.setTop (mkF m 2 #[.val (.int p1), .unset] [(.int (19 : Int32))])) _
    refine st1 _ ?_
    show Steps p.tables e below (T1.setTop (mkF m 4 #[.val (.int p1), .unset] [(.ref b1)])) _
    refine XS.dup X1.here hx rfl (hb hby own_d1_4) rfl rfl ?_
    show Steps p.tables e below (T1.setTop (mkF m 5 #[.val (.int p1), .unset] [(.ref b1), (.ref b1)])) _
    refine XS.iconst X1.here hx rfl (hb hby own_d1_5) ?_
    show Steps p.tables e below (T1.setTop (mkF m 6 #[.val (.int p1), .unset] [(.int (0 : Int32)), (.ref b1), (.ref b1)])) _
    refine XS.lconst X1.here hx rfl (hb hby own_d1_6) ?_
    show Steps p.tables e below (T1.setTop (mkF m 7 #[.val (.int p1), .unset] [(.long (1 : Int64)), (.int (0 : Int32)), (.ref b1), (.ref b1)])) _
    refine st2 _ ?_
    show Steps p.tables e below (T2.setTop (mkF m 8 #[.val (.int p1), .unset] [(.ref b1)])) _
    refine XS.dup X2.here hx rfl (hb hby own_d1_8) rfl rfl ?_
    show Steps p.tables e below (T2.setTop (mkF m 9 #[.val (.int p1), .unset] [(.ref b1), (.ref b1)])) _
    refine XS.iconst X2.here hx rfl (hb hby own_d1_9) ?_
    show Steps p.tables e below (T2.setTop (mkF m 10 #[.val (.int p1), .unset] [(.int (1 : Int32)), (.ref b1), (.ref b1)])) _
    refine X2.ldc2Long hx hown (mvT hZ (hw _ (List.mem_of_getElem? (i := 7) rfl))) (g := (mkF m 10 #[.val (.int p1), .unset] [(.int (1 : Int32)), (.ref b1), (.ref b1)])) rfl (hb hby own_d1_10) _ ?_
    show Steps p.tables e below (T2.setTop (mkF m 13 #[.val (.int p1), .unset] [(.long (10 : Int64)), (.int (1 : Int32)), (.ref b1), (.ref b1)])) _
    refine st3 _ ?_
    show Steps p.tables e below (T3.setTop (mkF m 14 #[.val (.int p1), .unset] [(.ref b1)])) _
    refine XS.dup X3.here hx rfl (hb hby own_d1_14) rfl rfl ?_
    show Steps p.tables e below (T3.setTop (mkF m 15 #[.val (.int p1), .unset] [(.ref b1), (.ref b1)])) _
    refine XS.iconst X3.here hx rfl (hb hby own_d1_15) ?_
    show Steps p.tables e below (T3.setTop (mkF m 16 #[.val (.int p1), .unset] [(.int (2 : Int32)), (.ref b1), (.ref b1)])) _
    refine X3.ldc2Long hx hown (mvT hZ (hw _ (List.mem_of_getElem? (i := 8) rfl))) (g := (mkF m 16 #[.val (.int p1), .unset] [(.int (2 : Int32)), (.ref b1), (.ref b1)])) rfl (hb hby own_d1_16) _ ?_
    show Steps p.tables e below (T3.setTop (mkF m 19 #[.val (.int p1), .unset] [(.long (100 : Int64)), (.int (2 : Int32)), (.ref b1), (.ref b1)])) _
    refine st4 _ ?_
    show Steps p.tables e below (T4.setTop (mkF m 20 #[.val (.int p1), .unset] [(.ref b1)])) _
    refine XS.dup X4.here hx rfl (hb hby own_d1_20) rfl rfl ?_
    show Steps p.tables e below (T4.setTop (mkF m 21 #[.val (.int p1), .unset] [(.ref b1), (.ref b1)])) _
    refine XS.iconst X4.here hx rfl (hb hby own_d1_21) ?_
    show Steps p.tables e below (T4.setTop (mkF m 22 #[.val (.int p1), .unset] [(.int (3 : Int32)), (.ref b1), (.ref b1)])) _
    refine X4.ldc2Long hx hown (mvT hZ (hw _ (List.mem_of_getElem? (i := 9) rfl))) (g := (mkF m 22 #[.val (.int p1), .unset] [(.int (3 : Int32)), (.ref b1), (.ref b1)])) rfl (hb hby own_d1_22) _ ?_
    show Steps p.tables e below (T4.setTop (mkF m 25 #[.val (.int p1), .unset] [(.long (1000 : Int64)), (.int (3 : Int32)), (.ref b1), (.ref b1)])) _
    refine st5 _ ?_
    show Steps p.tables e below (T5.setTop (mkF m 26 #[.val (.int p1), .unset] [(.ref b1)])) _
    refine XS.dup X5.here hx rfl (hb hby own_d1_26) rfl rfl ?_
    show Steps p.tables e below (T5.setTop (mkF m 27 #[.val (.int p1), .unset] [(.ref b1), (.ref b1)])) _
    refine XS.iconst X5.here hx rfl (hb hby own_d1_27) ?_
    show Steps p.tables e below (T5.setTop (mkF m 28 #[.val (.int p1), .unset] [(.int (4 : Int32)), (.ref b1), (.ref b1)])) _
    refine X5.ldc2Long hx hown (mvT hZ (hw _ (List.mem_of_getElem? (i := 10) rfl))) (g := (mkF m 28 #[.val (.int p1), .unset] [(.int (4 : Int32)), (.ref b1), (.ref b1)])) rfl (hb hby own_d1_28) _ ?_
    show Steps p.tables e below (T5.setTop (mkF m 31 #[.val (.int p1), .unset] [(.long (10000 : Int64)), (.int (4 : Int32)), (.ref b1), (.ref b1)])) _
    refine st6 _ ?_
    show Steps p.tables e below (T6.setTop (mkF m 32 #[.val (.int p1), .unset] [(.ref b1)])) _
    refine XS.dup X6.here hx rfl (hb hby own_d1_32) rfl rfl ?_
    show Steps p.tables e below (T6.setTop (mkF m 33 #[.val (.int p1), .unset] [(.ref b1), (.ref b1)])) _
    refine XS.iconst X6.here hx rfl (hb hby own_d1_33) ?_
    show Steps p.tables e below (T6.setTop (mkF m 34 #[.val (.int p1), .unset] [(.int (5 : Int32)), (.ref b1), (.ref b1)])) _
    refine X6.ldc2Long hx hown (mvT hZ (hw _ (List.mem_of_getElem? (i := 11) rfl))) (g := (mkF m 34 #[.val (.int p1), .unset] [(.int (5 : Int32)), (.ref b1), (.ref b1)])) rfl (hb hby own_d1_34) _ ?_
    show Steps p.tables e below (T6.setTop (mkF m 37 #[.val (.int p1), .unset] [(.long (100000 : Int64)), (.int (5 : Int32)), (.ref b1), (.ref b1)])) _
    refine st7 _ ?_
    show Steps p.tables e below (T7.setTop (mkF m 38 #[.val (.int p1), .unset] [(.ref b1)])) _
    refine XS.dup X7.here hx rfl (hb hby own_d1_38) rfl rfl ?_
    show Steps p.tables e below (T7.setTop (mkF m 39 #[.val (.int p1), .unset] [(.ref b1), (.ref b1)])) _
    refine XS.bipush X7.here hx rfl (hb hby own_d1_39) ?_
    show Steps p.tables e below (T7.setTop (mkF m 41 #[.val (.int p1), .unset] [(.int (6 : Int32)), (.ref b1), (.ref b1)])) _
    refine X7.ldc2Long hx hown (mvT hZ (hw _ (List.mem_of_getElem? (i := 12) rfl))) (g := (mkF m 41 #[.val (.int p1), .unset] [(.int (6 : Int32)), (.ref b1), (.ref b1)])) rfl (hb hby own_d1_41) _ ?_
    show Steps p.tables e below (T7.setTop (mkF m 44 #[.val (.int p1), .unset] [(.long (1000000 : Int64)), (.int (6 : Int32)), (.ref b1), (.ref b1)])) _
    refine st8 _ ?_
    show Steps p.tables e below (T8.setTop (mkF m 45 #[.val (.int p1), .unset] [(.ref b1)])) _
    refine XS.dup X8.here hx rfl (hb hby own_d1_45) rfl rfl ?_
    show Steps p.tables e below (T8.setTop (mkF m 46 #[.val (.int p1), .unset] [(.ref b1), (.ref b1)])) _
    refine XS.bipush X8.here hx rfl (hb hby own_d1_46) ?_
    show Steps p.tables e below (T8.setTop (mkF m 48 #[.val (.int p1), .unset] [(.int (7 : Int32)), (.ref b1), (.ref b1)])) _
    refine X8.ldc2Long hx hown (mvT hZ (hw _ (List.mem_of_getElem? (i := 13) rfl))) (g := (mkF m 48 #[.val (.int p1), .unset] [(.int (7 : Int32)), (.ref b1), (.ref b1)])) rfl (hb hby own_d1_48) _ ?_
    show Steps p.tables e below (T8.setTop (mkF m 51 #[.val (.int p1), .unset] [(.long (10000000 : Int64)), (.int (7 : Int32)), (.ref b1), (.ref b1)])) _
    refine st9 _ ?_
    show Steps p.tables e below (T9.setTop (mkF m 52 #[.val (.int p1), .unset] [(.ref b1)])) _
    refine XS.dup X9.here hx rfl (hb hby own_d1_52) rfl rfl ?_
    show Steps p.tables e below (T9.setTop (mkF m 53 #[.val (.int p1), .unset] [(.ref b1), (.ref b1)])) _
    refine XS.bipush X9.here hx rfl (hb hby own_d1_53) ?_
    show Steps p.tables e below (T9.setTop (mkF m 55 #[.val (.int p1), .unset] [(.int (8 : Int32)), (.ref b1), (.ref b1)])) _
    refine X9.ldc2Long hx hown (mvT hZ (hw _ (List.mem_of_getElem? (i := 14) rfl))) (g := (mkF m 55 #[.val (.int p1), .unset] [(.int (8 : Int32)), (.ref b1), (.ref b1)])) rfl (hb hby own_d1_55) _ ?_
    show Steps p.tables e below (T9.setTop (mkF m 58 #[.val (.int p1), .unset] [(.long (100000000 : Int64)), (.int (8 : Int32)), (.ref b1), (.ref b1)])) _
    refine st10 _ ?_
    show Steps p.tables e below (T10.setTop (mkF m 59 #[.val (.int p1), .unset] [(.ref b1)])) _
    refine XS.dup X10.here hx rfl (hb hby own_d1_59) rfl rfl ?_
    show Steps p.tables e below (T10.setTop (mkF m 60 #[.val (.int p1), .unset] [(.ref b1), (.ref b1)])) _
    refine XS.bipush X10.here hx rfl (hb hby own_d1_60) ?_
    show Steps p.tables e below (T10.setTop (mkF m 62 #[.val (.int p1), .unset] [(.int (9 : Int32)), (.ref b1), (.ref b1)])) _
    refine X10.ldc2Long hx hown (mvT hZ (hw _ (List.mem_of_getElem? (i := 15) rfl))) (g := (mkF m 62 #[.val (.int p1), .unset] [(.int (9 : Int32)), (.ref b1), (.ref b1)])) rfl (hb hby own_d1_62) _ ?_
    show Steps p.tables e below (T10.setTop (mkF m 65 #[.val (.int p1), .unset] [(.long (1000000000 : Int64)), (.int (9 : Int32)), (.ref b1), (.ref b1)])) _
    refine st11 _ ?_
    show Steps p.tables e below (T11.setTop (mkF m 66 #[.val (.int p1), .unset] [(.ref b1)])) _
    refine XS.dup X11.here hx rfl (hb hby own_d1_66) rfl rfl ?_
    show Steps p.tables e below (T11.setTop (mkF m 67 #[.val (.int p1), .unset] [(.ref b1), (.ref b1)])) _
    refine XS.bipush X11.here hx rfl (hb hby own_d1_67) ?_
    show Steps p.tables e below (T11.setTop (mkF m 69 #[.val (.int p1), .unset] [(.int (10 : Int32)), (.ref b1), (.ref b1)])) _
    refine X11.ldc2Long hx hown (mvT hZ (hw _ (List.mem_of_getElem? (i := 16) rfl))) (g := (mkF m 69 #[.val (.int p1), .unset] [(.int (10 : Int32)), (.ref b1), (.ref b1)])) rfl (hb hby own_d1_69) _ ?_
    show Steps p.tables e below (T11.setTop (mkF m 72 #[.val (.int p1), .unset] [(.long (10000000000 : Int64)), (.int (10 : Int32)), (.ref b1), (.ref b1)])) _
    refine st12 _ ?_
    show Steps p.tables e below (T12.setTop (mkF m 73 #[.val (.int p1), .unset] [(.ref b1)])) _
    refine XS.dup X12.here hx rfl (hb hby own_d1_73) rfl rfl ?_
    show Steps p.tables e below (T12.setTop (mkF m 74 #[.val (.int p1), .unset] [(.ref b1), (.ref b1)])) _
    refine XS.bipush X12.here hx rfl (hb hby own_d1_74) ?_
    show Steps p.tables e below (T12.setTop (mkF m 76 #[.val (.int p1), .unset] [(.int (11 : Int32)), (.ref b1), (.ref b1)])) _
    refine X12.ldc2Long hx hown (mvT hZ (hw _ (List.mem_of_getElem? (i := 17) rfl))) (g := (mkF m 76 #[.val (.int p1), .unset] [(.int (11 : Int32)), (.ref b1), (.ref b1)])) rfl (hb hby own_d1_76) _ ?_
    show Steps p.tables e below (T12.setTop (mkF m 79 #[.val (.int p1), .unset] [(.long (100000000000 : Int64)), (.int (11 : Int32)), (.ref b1), (.ref b1)])) _
    refine st13 _ ?_
    show Steps p.tables e below (T13.setTop (mkF m 80 #[.val (.int p1), .unset] [(.ref b1)])) _
    refine XS.dup X13.here hx rfl (hb hby own_d1_80) rfl rfl ?_
    show Steps p.tables e below (T13.setTop (mkF m 81 #[.val (.int p1), .unset] [(.ref b1), (.ref b1)])) _
    refine XS.bipush X13.here hx rfl (hb hby own_d1_81) ?_
    show Steps p.tables e below (T13.setTop (mkF m 83 #[.val (.int p1), .unset] [(.int (12 : Int32)), (.ref b1), (.ref b1)])) _
    refine X13.ldc2Long hx hown (mvT hZ (hw _ (List.mem_of_getElem? (i := 18) rfl))) (g := (mkF m 83 #[.val (.int p1), .unset] [(.int (12 : Int32)), (.ref b1), (.ref b1)])) rfl (hb hby own_d1_83) _ ?_
    show Steps p.tables e below (T13.setTop (mkF m 86 #[.val (.int p1), .unset] [(.long (1000000000000 : Int64)), (.int (12 : Int32)), (.ref b1), (.ref b1)])) _
    refine st14 _ ?_
    show Steps p.tables e below (T14.setTop (mkF m 87 #[.val (.int p1), .unset] [(.ref b1)])) _
    refine XS.dup X14.here hx rfl (hb hby own_d1_87) rfl rfl ?_
    show Steps p.tables e below (T14.setTop (mkF m 88 #[.val (.int p1), .unset] [(.ref b1), (.ref b1)])) _
    refine XS.bipush X14.here hx rfl (hb hby own_d1_88) ?_
    show Steps p.tables e below (T14.setTop (mkF m 90 #[.val (.int p1), .unset] [(.int (13 : Int32)), (.ref b1), (.ref b1)])) _
    refine X14.ldc2Long hx hown (mvT hZ (hw _ (List.mem_of_getElem? (i := 19) rfl))) (g := (mkF m 90 #[.val (.int p1), .unset] [(.int (13 : Int32)), (.ref b1), (.ref b1)])) rfl (hb hby own_d1_90) _ ?_
    show Steps p.tables e below (T14.setTop (mkF m 93 #[.val (.int p1), .unset] [(.long (10000000000000 : Int64)), (.int (13 : Int32)), (.ref b1), (.ref b1)])) _
    refine st15 _ ?_
    show Steps p.tables e below (T15.setTop (mkF m 94 #[.val (.int p1), .unset] [(.ref b1)])) _
    refine XS.dup X15.here hx rfl (hb hby own_d1_94) rfl rfl ?_
    show Steps p.tables e below (T15.setTop (mkF m 95 #[.val (.int p1), .unset] [(.ref b1), (.ref b1)])) _
    refine XS.bipush X15.here hx rfl (hb hby own_d1_95) ?_
    show Steps p.tables e below (T15.setTop (mkF m 97 #[.val (.int p1), .unset] [(.int (14 : Int32)), (.ref b1), (.ref b1)])) _
    refine X15.ldc2Long hx hown (mvT hZ (hw _ (List.mem_of_getElem? (i := 20) rfl))) (g := (mkF m 97 #[.val (.int p1), .unset] [(.int (14 : Int32)), (.ref b1), (.ref b1)])) rfl (hb hby own_d1_97) _ ?_
    show Steps p.tables e below (T15.setTop (mkF m 100 #[.val (.int p1), .unset] [(.long (100000000000000 : Int64)), (.int (14 : Int32)), (.ref b1), (.ref b1)])) _
    refine st16 _ ?_
    show Steps p.tables e below (T16.setTop (mkF m 101 #[.val (.int p1), .unset] [(.ref b1)])) _
    refine XS.dup X16.here hx rfl (hb hby own_d1_101) rfl rfl ?_
    show Steps p.tables e below (T16.setTop (mkF m 102 #[.val (.int p1), .unset] [(.ref b1), (.ref b1)])) _
    refine XS.bipush X16.here hx rfl (hb hby own_d1_102) ?_
    show Steps p.tables e below (T16.setTop (mkF m 104 #[.val (.int p1), .unset] [(.int (15 : Int32)), (.ref b1), (.ref b1)])) _
    refine X16.ldc2Long hx hown (mvT hZ (hw _ (List.mem_of_getElem? (i := 21) rfl))) (g := (mkF m 104 #[.val (.int p1), .unset] [(.int (15 : Int32)), (.ref b1), (.ref b1)])) rfl (hb hby own_d1_104) _ ?_
    show Steps p.tables e below (T16.setTop (mkF m 107 #[.val (.int p1), .unset] [(.long (1000000000000000 : Int64)), (.int (15 : Int32)), (.ref b1), (.ref b1)])) _
    refine st17 _ ?_
    show Steps p.tables e below (T17.setTop (mkF m 108 #[.val (.int p1), .unset] [(.ref b1)])) _
    refine XS.dup X17.here hx rfl (hb hby own_d1_108) rfl rfl ?_
    show Steps p.tables e below (T17.setTop (mkF m 109 #[.val (.int p1), .unset] [(.ref b1), (.ref b1)])) _
    refine XS.bipush X17.here hx rfl (hb hby own_d1_109) ?_
    show Steps p.tables e below (T17.setTop (mkF m 111 #[.val (.int p1), .unset] [(.int (16 : Int32)), (.ref b1), (.ref b1)])) _
    refine X17.ldc2Long hx hown (mvT hZ (hw _ (List.mem_of_getElem? (i := 22) rfl))) (g := (mkF m 111 #[.val (.int p1), .unset] [(.int (16 : Int32)), (.ref b1), (.ref b1)])) rfl (hb hby own_d1_111) _ ?_
    show Steps p.tables e below (T17.setTop (mkF m 114 #[.val (.int p1), .unset] [(.long (10000000000000000 : Int64)), (.int (16 : Int32)), (.ref b1), (.ref b1)])) _
    refine st18 _ ?_
    show Steps p.tables e below (T18.setTop (mkF m 115 #[.val (.int p1), .unset] [(.ref b1)])) _
    refine XS.dup X18.here hx rfl (hb hby own_d1_115) rfl rfl ?_
    show Steps p.tables e below (T18.setTop (mkF m 116 #[.val (.int p1), .unset] [(.ref b1), (.ref b1)])) _
    refine XS.bipush X18.here hx rfl (hb hby own_d1_116) ?_
    show Steps p.tables e below (T18.setTop (mkF m 118 #[.val (.int p1), .unset] [(.int (17 : Int32)), (.ref b1), (.ref b1)])) _
    refine X18.ldc2Long hx hown (mvT hZ (hw _ (List.mem_of_getElem? (i := 23) rfl))) (g := (mkF m 118 #[.val (.int p1), .unset] [(.int (17 : Int32)), (.ref b1), (.ref b1)])) rfl (hb hby own_d1_118) _ ?_
    show Steps p.tables e below (T18.setTop (mkF m 121 #[.val (.int p1), .unset] [(.long (100000000000000000 : Int64)), (.int (17 : Int32)), (.ref b1), (.ref b1)])) _
    refine st19 _ ?_
    show Steps p.tables e below (T19.setTop (mkF m 122 #[.val (.int p1), .unset] [(.ref b1)])) _
    refine XS.dup X19.here hx rfl (hb hby own_d1_122) rfl rfl ?_
    show Steps p.tables e below (T19.setTop (mkF m 123 #[.val (.int p1), .unset] [(.ref b1), (.ref b1)])) _
    refine XS.bipush X19.here hx rfl (hb hby own_d1_123) ?_
    show Steps p.tables e below (T19.setTop (mkF m 125 #[.val (.int p1), .unset] [(.int (18 : Int32)), (.ref b1), (.ref b1)])) _
    refine X19.ldc2Long hx hown (mvT hZ (hw _ (List.mem_of_getElem? (i := 24) rfl))) (g := (mkF m 125 #[.val (.int p1), .unset] [(.int (18 : Int32)), (.ref b1), (.ref b1)])) rfl (hb hby own_d1_125) _ ?_
    show Steps p.tables e below (T19.setTop (mkF m 128 #[.val (.int p1), .unset] [(.long (1000000000000000000 : Int64)), (.int (18 : Int32)), (.ref b1), (.ref b1)])) _
    refine st20 _ ?_
    show Steps p.tables e below (T20.setTop (mkF m 129 #[.val (.int p1), .unset] [(.ref b1)])) _
    refine XS.astoreN X20.here hx rfl (hb hby own_d1_129) rfl rfl (l' := #[.val (.int p1), .val (.ref b1)]) rfl ?_
    show Steps p.tables e below (T20.setTop (mkF m 130 #[.val (.int p1), .val (.ref b1)] [])) _
    refine XS.aloadN X20.here hx rfl (hb hby own_d1_130) rfl rfl ?_
    show Steps p.tables e below (T20.setTop (mkF m 131 #[.val (.int p1), .val (.ref b1)] [(.ref b1)])) _
    refine XS.iloadN X20.here hx rfl (hb hby own_d1_131) rfl ?_
    show Steps p.tables e below (T20.setTop (mkF m 132 #[.val (.int p1), .val (.ref b1)] [(.int p1), (.ref b1)])) _
    refine X20.laload hx (j := p1) (v := (.long wv)) (by rw [e20]; exact A20.1) (State.isArrayOf_alike hZ.alike A20.2.1) A20.2.2 hin hat (g := (mkF m 132 #[.val (.int p1), .val (.ref b1)] [(.int p1), (.ref b1)])) rfl rfl (hb hby own_d1_132) _ ?_
    show Steps p.tables e below (T20.setTop (mkF m 133 #[.val (.int p1), .val (.ref b1)] [(.long wv)])) _
    jvm_step X20.here [X20.here.top, hx, (hb hby own_d1_133), X20.method', Bd.returns, narrow]
    first | (intro acts; rw [hr _ acts rfl rfl rfl]) | rw [hr _ _ rfl rfl rfl]
    exact Steps.refl _
  · show own_Qp Z n0 _ T20.heap _
    rw [e20]
    exact ⟨wv, rfl, N20, O20⟩
def own_Q (v : Option Value) (n0 : Nat) (h : Heap) (L : List Loc) : Prop := v = some (.int 1) ∧ Fr n0 L
def own_QL (n0 : Nat) (v : Option Value) (h : Heap) (L : List Loc) : Prop := v = some (.int (1 : Int32)) ∧ Fr n0 L
theorem own_mod19 (p : Int32) : 0 ≤ ((p &&& (2147483647 : Int32)) % (19 : Int32)).toInt ∧ ((p &&& (2147483647 : Int32)) % (19 : Int32)).toInt < 19 := by
  have h := c_and p (2147483647 : Int32) (by decide)
  have h2 := (c_irem (p &&& (2147483647 : Int32)) (19 : Int32) 19 (by decide)).1 h.1
  rw [h2]; omega
theorem own_pd2 : parseMethodDescriptor "(I)J" = some ⟨[.int], some .long⟩ := by decide +kernel
theorem own_ef0 (m : MethodId) (x0 : Int64) (x1 : Int32) (x2 : Int32) (x3 : Int32) : entryFrame m #[(.long x0), (.int x1), (.int x2), (.int x3)] maxLocals = mkF m 0 #[.val (.long x0), .second, .val (.int x1), .val (.int x2), .val (.int x3), .unset, .unset, .unset, .unset, .unset] [] := by first | (simp [entryFrame, mkF, argsToLocals, Value.category, maxLocals]; done) | rfl
set_option maxRecDepth 65536 in
set_option maxHeartbeats 40000000 in
theorem own_law (l : Launch) (Z : State) (a0 : Array Value) (hw : ∀ d ∈ tables_1, d.before a0 Z = true) (ws : List Jvm.Cond) (wa : Addr) (cl : Cell) (q1 : Int64) (p2 p3 p4 : Int32) (h0 : Heap) (n0 : Nat) (O0 : Old Z n0 h0) (K : own_W Z wa cl) :
    MetFree l x (head1 (Jvm.Cond.code x code maxLocals ret :: ws) room_1) (fun aa_ U_ => aa_ = #[(.long q1), (.int p2), (.int p3), (.int p4)] ∧ Z.Warmed39 U_.vm ∧ U_.heap = h0) (fun _ _ _ _ _ => True) (fun _ U_ oo_ UU_ => ∃ vv_ LL_, oo_ = .returned vv_ ∧ own_QL n0 vv_ UU_.heap LL_ ∧ FrameEnd U_ oo_ UU_ LL_ room_1.cells room_1.slots) := by
  refine MetFree.of_bodySF (plainFor_of_name own_pn2) hisR ?_
  intro p e s m args below meth c s₁ Bd hml0 hP hK
  obtain ⟨rfl, hZ, hh⟩ := hP
  have hx := Bd.exec
  have hby := Bd.bytes
  have hml : c.maxLocals = 10 := hml0
  have hown : s.vm.findClass "com/example/midpoint/midpoint/digits/PowersOfTenDigitCountPinLaw" = some m.cls := findClass_of_methodNamed Bd.named
  have hnm := (name_of_methodNamed Bd.named Bd.method).1
  have X0 : Stand p l e room_1 s m #[(.long q1), (.int p2), (.int p3), (.int p4)] below meth c s₁ [] 0 0 := Stand.of_body Bd
  have e0 : s₁.heap = h0 := by rw [← hh, Bd.state]; rfl
  have N0 := Fr.nil n0
  have pre0 : ∀ t, Steps p.tables e below (s₁.setTop (mkF m 0 #[.val (.long q1), .second, .val (.int p2), .val (.int p3), .val (.int p4), .unset, .unset, .unset, .unset, .unset] [])) t → Steps p.tables e below (s₁.setTop (entryFrame m #[(.long q1), (.int p2), (.int p3), (.int p4)] maxLocals)) t := fun t k => castTop (own_ef0 m q1 p2 p3 p4) k
  obtain ⟨va, h_va⟩ : ∃ z : Int64, z = (((q1 &&& (9223372036854775807 : Int64)).toUInt64 >>> ((p2 &&& (63 : Int32)) &&& 0x3f).toInt64.toUInt64).toInt64) := ⟨_, rfl⟩
  obtain ⟨kk, h_kk⟩ : ∃ z : Int32, z = ((p3 &&& (2147483647 : Int32)) % (19 : Int32)) := ⟨_, rfl⟩
  have hk : 0 ≤ kk.toInt ∧ kk.toInt < 19 := by rw [h_kk]; exact own_mod19 p3
  obtain ⟨_, _, ⟨T1, L1, k1, n1⟩, -, X1, ⟨Lc1, hQ1, l1, y1, z1⟩, st1⟩ := Jvm.LawKit.callS X0 hx (y := (⟨"com/example/midpoint/midpoint/digits/PowersOfTenDigitCountPinLaw", "pow10", "(I)J"⟩ : MethodName)) hown (mvT hZ (hw _ (List.mem_of_getElem? (i := 2) rfl))) (mvT hZ (hw _ (List.mem_of_getElem? (i := 3) rfl))) (mvT hZ (hw _ (List.mem_of_getElem? (i := 4) rfl))) (mvT hZ (hw _ (List.mem_of_getElem? (i := 5) rfl))) (by decide) (backOf (W := 0) (own_pow10 l Z a0 hw [] kk h0 n0 O0 hk) hZ (hw _ (List.mem_of_getElem? (i := 5) rfl)) (hw _ (List.mem_of_getElem? (i := 4) rfl)) (by decide) (by decide)) (g := (mkF m 19 #[.val (.long q1), .second, .val (.int p2), .val (.int p3), .val (.int p4), .val (.long va), .second, .unset, .unset, .unset] [(.int kk)])) rfl (by rw [hml]; rfl) (argsL := [(.int kk)]) (rest := []) (lenOf own_pd2 rfl) rfl (by show 2 * 0 + _ ≤ _; exact Nat.le_of_eq rfl) (hb hby at_19) (fun _ _ => ⟨rfl, e0, (by decide : 0 + 1 ≤ _), (by decide : 0 + 19 ≤ _)⟩)
  dsimp only [Pt.U, Pt.locs, Pt.cells, Pt.slots] at X1 l1 y1 z1 st1 hQ1
  subst l1 y1 z1
  obtain ⟨wb, rfl, N1q, O1⟩ := hQ1
  have N1 := Fr.app N0 N1q
  obtain ⟨vb, h_vb⟩ : ∃ z : Int64, z = (wb + (((p4 &&& (3 : Int32)) - (1 : Int32)).toInt64)) := ⟨_, rfl⟩
  obtain ⟨T2, ⟨X2, e2⟩, st2⟩ : ∃ (T' : State), own_Go X1 T1.heap T' ∧ ∀ target, Steps p.tables e below (T'.setTop (mkF m 62 #[.val (.long q1), .second, .val (.int p2), .val (.int p3), .val (.int p4), .val (.long va), .second, .val (.long vb), .second, .val (.int (1 : Int32))] [])) target → Steps p.tables e below (T1.setTop (mkF m 39 #[.val (.long q1), .second, .val (.int p2), .val (.int p3), .val (.int p4), .val (.long va), .second, .val (.long vb), .second, .val (.int (1 : Int32))] [(.int (lcmpW va (0 : Int64)))])) target := by
    by_cases hf2 : (0 : Int32) < (lcmpW va (0 : Int64))
    · obtain ⟨_, _, ⟨T3, L3, k3, n3⟩, -, X3, ⟨Lc3, hQ3, l3, y3, z3⟩, st3⟩ := Jvm.LawKit.callS X1 hx (y := (⟨"com/example/midpoint/midpoint/digits/PowersOfTen", "digitCount", "(J)I"⟩ : MethodName)) hown (mvT hZ (hw _ (List.mem_of_getElem? (i := 25) rfl))) (mvT hZ (hw _ (List.mem_of_getElem? (i := 26) rfl))) (mvT hZ (hw _ (List.mem_of_getElem? (i := 27) rfl))) (mvT hZ (hw _ (List.mem_of_getElem? (i := 28) rfl))) (by decide) (backOf (W := 0) (own_count l Z a0 hw [] wa cl va T1.heap n0 O1 K ((lw_gt _ _).mp hf2)) hZ (hw _ (List.mem_of_getElem? (i := 28) rfl)) (hw _ (List.mem_of_getElem? (i := 27) rfl)) (by decide) (by decide)) (g := (mkF m 44 #[.val (.long q1), .second, .val (.int p2), .val (.int p3), .val (.int p4), .val (.long va), .second, .val (.long vb), .second, .val (.int (1 : Int32))] [(.long va)])) rfl (by rw [hml]; rfl) (argsL := [(.long va)]) (rest := []) (lenOf own_pd1 rfl) rfl (by show 2 * 0 + _ ≤ _; exact Nat.le_of_eq rfl) (hb hby at_44) (fun _ _ => ⟨rfl, rfl, (by decide : 1 + 0 ≤ _), (by decide : 19 + 0 ≤ _)⟩)
      dsimp only [Pt.U, Pt.locs, Pt.cells, Pt.slots] at X3 l3 y3 z3 st3 hQ3
      subst l3 y3 z3
      obtain ⟨rfl, rfl, e3⟩ := hQ3
      try rw [List.append_nil] at X3
      obtain ⟨_, _, ⟨T4, L4, k4, n4⟩, -, X4, ⟨Lc4, hQ4, l4, y4, z4⟩, st4⟩ := Jvm.LawKit.callS X3 hx (y := (⟨"com/example/midpoint/midpoint/digits/PowersOfTenDigitCountPinLaw", "digits", "(J)I"⟩ : MethodName)) hown (mvT hZ (hw _ (List.mem_of_getElem? (i := 40) rfl))) (mvT hZ (hw _ (List.mem_of_getElem? (i := 41) rfl))) (mvT hZ (hw _ (List.mem_of_getElem? (i := 4) rfl))) (mvT hZ (hw _ (List.mem_of_getElem? (i := 42) rfl))) (by decide) (backOf (W := 1) (own_digits l Z a0 hw [] va T1.heap n0 O1) hZ (hw _ (List.mem_of_getElem? (i := 42) rfl)) (hw _ (List.mem_of_getElem? (i := 4) rfl)) (by decide) (by decide)) (g := (mkF m 49 #[.val (.long q1), .second, .val (.int p2), .val (.int p3), .val (.int p4), .val (.long va), .second, .val (.long vb), .second, .val (.int (1 : Int32))] [(.long va), (.int (own_dig va))])) rfl (by rw [hml]; rfl) (argsL := [(.long va)]) (rest := [(.int (own_dig va))]) (lenOf own_pd1 rfl) rfl (by show 2 * 0 + _ ≤ _; exact Nat.le_of_eq rfl) (hb hby at_49) (fun _ _ => ⟨rfl, e3, (by decide : 1 + 0 ≤ _), (by decide : 19 + 0 ≤ _)⟩)
      dsimp only [Pt.U, Pt.locs, Pt.cells, Pt.slots] at X4 l4 y4 z4 st4 hQ4
      subst l4 y4 z4
      obtain ⟨rfl, rfl, e4⟩ := hQ4
      try rw [List.append_nil] at X4
      refine ⟨T4, ⟨X4, e4⟩, fun target kt => ?_⟩
      show Steps p.tables e below (T1.setTop (mkF m 39 #[.val (.long q1), .second, .val (.int p2), .val (.int p3), .val (.int p4), .val (.long va), .second, .val (.long vb), .second, .val (.int (1 : Int32))] [(.int (lcmpW va (0 : Int64)))])) _
      refine XS.ifNo X1.here hx rfl (hb hby at_39) rfl ((if0 _ _).trans (tlt hf2).2.2.2) ?_
      show Steps p.tables e below (T1.setTop (mkF m 42 #[.val (.long q1), .second, .val (.int p2), .val (.int p3), .val (.int p4), .val (.long va), .second, .val (.long vb), .second, .val (.int (1 : Int32))] [])) _
      refine XS.lload X1.here hx rfl (hb hby at_42) rfl ?_
      show Steps p.tables e below (T1.setTop (mkF m 44 #[.val (.long q1), .second, .val (.int p2), .val (.int p3), .val (.int p4), .val (.long va), .second, .val (.long vb), .second, .val (.int (1 : Int32))] [(.long va)])) _
      refine st3 _ ?_
      show Steps p.tables e below (T3.setTop (mkF m 47 #[.val (.long q1), .second, .val (.int p2), .val (.int p3), .val (.int p4), .val (.long va), .second, .val (.long vb), .second, .val (.int (1 : Int32))] [(.int (own_dig va))])) _
      refine XS.lload X3.here hx rfl (hb hby at_47) rfl ?_
      show Steps p.tables e below (T3.setTop (mkF m 49 #[.val (.long q1), .second, .val (.int p2), .val (.int p3), .val (.int p4), .val (.long va), .second, .val (.long vb), .second, .val (.int (1 : Int32))] [(.long va), (.int (own_dig va))])) _
      refine st4 _ ?_
      show Steps p.tables e below (T4.setTop (mkF m 52 #[.val (.long q1), .second, .val (.int p2), .val (.int p3), .val (.int p4), .val (.long va), .second, .val (.long vb), .second, .val (.int (1 : Int32))] [(.int (own_dig va)), (.int (own_dig va))])) _
      refine XS.icmpNo X4.here hx rfl (hb hby at_52) rfl (teq (rfl : (own_dig va) = (own_dig va))).2 ?_
      show Steps p.tables e below (T4.setTop (mkF m 55 #[.val (.long q1), .second, .val (.int p2), .val (.int p3), .val (.int p4), .val (.long va), .second, .val (.long vb), .second, .val (.int (1 : Int32))] [])) _
      refine XS.iconst X4.here hx rfl (hb hby at_55) ?_
      show Steps p.tables e below (T4.setTop (mkF m 56 #[.val (.long q1), .second, .val (.int p2), .val (.int p3), .val (.int p4), .val (.long va), .second, .val (.long vb), .second, .val (.int (1 : Int32))] [(.int (1 : Int32))])) _
      refine XS.goto X4.here hx rfl (pc0 := 56) (pc' := 60) rfl (hb hby at_56) (by decide) (by decide) ?_
      show Steps p.tables e below (T4.setTop (mkF m 60 #[.val (.long q1), .second, .val (.int p2), .val (.int p3), .val (.int p4), .val (.long va), .second, .val (.long vb), .second, .val (.int (1 : Int32))] [(.int (1 : Int32))])) _
      refine XS.istore X4.here hx rfl (hb hby at_60) rfl (l' := #[.val (.long q1), .second, .val (.int p2), .val (.int p3), .val (.int p4), .val (.long va), .second, .val (.long vb), .second, .val (.int (1 : Int32))]) rfl ?_
      show Steps p.tables e below (T4.setTop (mkF m 62 #[.val (.long q1), .second, .val (.int p2), .val (.int p3), .val (.int p4), .val (.long va), .second, .val (.long vb), .second, .val (.int (1 : Int32))] [])) _
      exact kt
    · refine ⟨T1, ⟨X1, rfl⟩, fun target kt => ?_⟩
      show Steps p.tables e below (T1.setTop (mkF m 39 #[.val (.long q1), .second, .val (.int p2), .val (.int p3), .val (.int p4), .val (.long va), .second, .val (.long vb), .second, .val (.int (1 : Int32))] [(.int (lcmpW va (0 : Int64)))])) _
      refine XS.ifYes X1.here hx rfl (pc0 := 39) (pc' := 62) rfl (hb hby at_39) rfl ((if0 _ _).trans (flt hf2).2.2.2) (by decide) (by decide) ?_
      show Steps p.tables e below (T1.setTop (mkF m 62 #[.val (.long q1), .second, .val (.int p2), .val (.int p3), .val (.int p4), .val (.long va), .second, .val (.long vb), .second, .val (.int (1 : Int32))] [])) _
      exact kt
  obtain ⟨T5, ⟨X5, e5⟩, st5⟩ : ∃ (T' : State), own_Go X2 T1.heap T' ∧ ∀ target, Steps p.tables e below (T'.setTop (mkF m 94 #[.val (.long q1), .second, .val (.int p2), .val (.int p3), .val (.int p4), .val (.long va), .second, .val (.long vb), .second, .val (.int (1 : Int32))] [])) target → Steps p.tables e below (T2.setTop (mkF m 66 #[.val (.long q1), .second, .val (.int p2), .val (.int p3), .val (.int p4), .val (.long va), .second, .val (.long vb), .second, .val (.int (1 : Int32))] [(.int (lcmpW vb (0 : Int64)))])) target := by
    by_cases hf5 : (0 : Int32) < (lcmpW vb (0 : Int64))
    · obtain ⟨_, _, ⟨T6, L6, k6, n6⟩, -, X6, ⟨Lc6, hQ6, l6, y6, z6⟩, st6⟩ := Jvm.LawKit.callS X2 hx (y := (⟨"com/example/midpoint/midpoint/digits/PowersOfTen", "digitCount", "(J)I"⟩ : MethodName)) hown (mvT hZ (hw _ (List.mem_of_getElem? (i := 25) rfl))) (mvT hZ (hw _ (List.mem_of_getElem? (i := 26) rfl))) (mvT hZ (hw _ (List.mem_of_getElem? (i := 27) rfl))) (mvT hZ (hw _ (List.mem_of_getElem? (i := 28) rfl))) (by decide) (backOf (W := 0) (own_count l Z a0 hw [] wa cl vb T1.heap n0 O1 K ((lw_gt _ _).mp hf5)) hZ (hw _ (List.mem_of_getElem? (i := 28) rfl)) (hw _ (List.mem_of_getElem? (i := 27) rfl)) (by decide) (by decide)) (g := (mkF m 76 #[.val (.long q1), .second, .val (.int p2), .val (.int p3), .val (.int p4), .val (.long va), .second, .val (.long vb), .second, .val (.int (1 : Int32))] [(.long vb)])) rfl (by rw [hml]; rfl) (argsL := [(.long vb)]) (rest := []) (lenOf own_pd1 rfl) rfl (by show 2 * 0 + _ ≤ _; exact Nat.le_of_eq rfl) (hb hby at_76) (fun _ _ => ⟨rfl, e2, (by decide : 1 + 0 ≤ _), (by decide : 19 + 0 ≤ _)⟩)
      dsimp only [Pt.U, Pt.locs, Pt.cells, Pt.slots] at X6 l6 y6 z6 st6 hQ6
      subst l6 y6 z6
      obtain ⟨rfl, rfl, e6⟩ := hQ6
      try rw [List.append_nil] at X6
      obtain ⟨_, _, ⟨T7, L7, k7, n7⟩, -, X7, ⟨Lc7, hQ7, l7, y7, z7⟩, st7⟩ := Jvm.LawKit.callS X6 hx (y := (⟨"com/example/midpoint/midpoint/digits/PowersOfTenDigitCountPinLaw", "digits", "(J)I"⟩ : MethodName)) hown (mvT hZ (hw _ (List.mem_of_getElem? (i := 40) rfl))) (mvT hZ (hw _ (List.mem_of_getElem? (i := 41) rfl))) (mvT hZ (hw _ (List.mem_of_getElem? (i := 4) rfl))) (mvT hZ (hw _ (List.mem_of_getElem? (i := 42) rfl))) (by decide) (backOf (W := 1) (own_digits l Z a0 hw [] vb T1.heap n0 O1) hZ (hw _ (List.mem_of_getElem? (i := 42) rfl)) (hw _ (List.mem_of_getElem? (i := 4) rfl)) (by decide) (by decide)) (g := (mkF m 81 #[.val (.long q1), .second, .val (.int p2), .val (.int p3), .val (.int p4), .val (.long va), .second, .val (.long vb), .second, .val (.int (1 : Int32))] [(.long vb), (.int (own_dig vb))])) rfl (by rw [hml]; rfl) (argsL := [(.long vb)]) (rest := [(.int (own_dig vb))]) (lenOf own_pd1 rfl) rfl (by show 2 * 0 + _ ≤ _; exact Nat.le_of_eq rfl) (hb hby at_81) (fun _ _ => ⟨rfl, e6, (by decide : 1 + 0 ≤ _), (by decide : 19 + 0 ≤ _)⟩)
      dsimp only [Pt.U, Pt.locs, Pt.cells, Pt.slots] at X7 l7 y7 z7 st7 hQ7
      subst l7 y7 z7
      obtain ⟨rfl, rfl, e7⟩ := hQ7
      try rw [List.append_nil] at X7
      refine ⟨T7, ⟨X7, e7⟩, fun target kt => ?_⟩
      show Steps p.tables e below (T2.setTop (mkF m 66 #[.val (.long q1), .second, .val (.int p2), .val (.int p3), .val (.int p4), .val (.long va), .second, .val (.long vb), .second, .val (.int (1 : Int32))] [(.int (lcmpW vb (0 : Int64)))])) _
      refine XS.ifNo X2.here hx rfl (hb hby at_66) rfl ((if0 _ _).trans (tlt hf5).2.2.2) ?_
      show Steps p.tables e below (T2.setTop (mkF m 69 #[.val (.long q1), .second, .val (.int p2), .val (.int p3), .val (.int p4), .val (.long va), .second, .val (.long vb), .second, .val (.int (1 : Int32))] [])) _
      refine XS.iload X2.here hx rfl (hb hby at_69) rfl ?_
      show Steps p.tables e below (T2.setTop (mkF m 71 #[.val (.long q1), .second, .val (.int p2), .val (.int p3), .val (.int p4), .val (.long va), .second, .val (.long vb), .second, .val (.int (1 : Int32))] [(.int (1 : Int32))])) _
      refine XS.ifNo X2.here hx rfl (hb hby at_71) rfl ((if0 _ _).trans (feq (by decide : ¬ ((1 : Int32) = (0 : Int32)))).1) ?_
      show Steps p.tables e below (T2.setTop (mkF m 74 #[.val (.long q1), .second, .val (.int p2), .val (.int p3), .val (.int p4), .val (.long va), .second, .val (.long vb), .second, .val (.int (1 : Int32))] [])) _
      refine XS.lload X2.here hx rfl (hb hby at_74) rfl ?_
      show Steps p.tables e below (T2.setTop (mkF m 76 #[.val (.long q1), .second, .val (.int p2), .val (.int p3), .val (.int p4), .val (.long va), .second, .val (.long vb), .second, .val (.int (1 : Int32))] [(.long vb)])) _
      refine st6 _ ?_
      show Steps p.tables e below (T6.setTop (mkF m 79 #[.val (.long q1), .second, .val (.int p2), .val (.int p3), .val (.int p4), .val (.long va), .second, .val (.long vb), .second, .val (.int (1 : Int32))] [(.int (own_dig vb))])) _
      refine XS.lload X6.here hx rfl (hb hby at_79) rfl ?_
      show Steps p.tables e below (T6.setTop (mkF m 81 #[.val (.long q1), .second, .val (.int p2), .val (.int p3), .val (.int p4), .val (.long va), .second, .val (.long vb), .second, .val (.int (1 : Int32))] [(.long vb), (.int (own_dig vb))])) _
      refine st7 _ ?_
      show Steps p.tables e below (T7.setTop (mkF m 84 #[.val (.long q1), .second, .val (.int p2), .val (.int p3), .val (.int p4), .val (.long va), .second, .val (.long vb), .second, .val (.int (1 : Int32))] [(.int (own_dig vb)), (.int (own_dig vb))])) _
      refine XS.icmpNo X7.here hx rfl (hb hby at_84) rfl (teq (rfl : (own_dig vb) = (own_dig vb))).2 ?_
      show Steps p.tables e below (T7.setTop (mkF m 87 #[.val (.long q1), .second, .val (.int p2), .val (.int p3), .val (.int p4), .val (.long va), .second, .val (.long vb), .second, .val (.int (1 : Int32))] [])) _
      refine XS.iconst X7.here hx rfl (hb hby at_87) ?_
      show Steps p.tables e below (T7.setTop (mkF m 88 #[.val (.long q1), .second, .val (.int p2), .val (.int p3), .val (.int p4), .val (.long va), .second, .val (.long vb), .second, .val (.int (1 : Int32))] [(.int (1 : Int32))])) _
      refine XS.goto X7.here hx rfl (pc0 := 88) (pc' := 92) rfl (hb hby at_88) (by decide) (by decide) ?_
      show Steps p.tables e below (T7.setTop (mkF m 92 #[.val (.long q1), .second, .val (.int p2), .val (.int p3), .val (.int p4), .val (.long va), .second, .val (.long vb), .second, .val (.int (1 : Int32))] [(.int (1 : Int32))])) _
      refine XS.istore X7.here hx rfl (hb hby at_92) rfl (l' := #[.val (.long q1), .second, .val (.int p2), .val (.int p3), .val (.int p4), .val (.long va), .second, .val (.long vb), .second, .val (.int (1 : Int32))]) rfl ?_
      show Steps p.tables e below (T7.setTop (mkF m 94 #[.val (.long q1), .second, .val (.int p2), .val (.int p3), .val (.int p4), .val (.long va), .second, .val (.long vb), .second, .val (.int (1 : Int32))] [])) _
      exact kt
    · refine ⟨T2, ⟨X2, e2⟩, fun target kt => ?_⟩
      show Steps p.tables e below (T2.setTop (mkF m 66 #[.val (.long q1), .second, .val (.int p2), .val (.int p3), .val (.int p4), .val (.long va), .second, .val (.long vb), .second, .val (.int (1 : Int32))] [(.int (lcmpW vb (0 : Int64)))])) _
      refine XS.ifYes X2.here hx rfl (pc0 := 66) (pc' := 94) rfl (hb hby at_66) rfl ((if0 _ _).trans (flt hf5).2.2.2) (by decide) (by decide) ?_
      show Steps p.tables e below (T2.setTop (mkF m 94 #[.val (.long q1), .second, .val (.int p2), .val (.int p3), .val (.int p4), .val (.long va), .second, .val (.long vb), .second, .val (.int (1 : Int32))] [])) _
      exact kt
  obtain ⟨fs, hr, hrun, hended, hW, hsame⟩ := X5.leave (v := some (.int (1 : Int32))) (fun h => by rw [Bd.returns] at h; cases h)
  refine ⟨_, _, pre0 _ ?_, hrun, hended, _, _, rfl, ?_, ⟨_, rfl⟩, hW, hsame.mono (by decide) (by decide)⟩
  · show Steps p.tables e below (s₁.setTop (mkF m 0 #[.val (.long q1), .second, .val (.int p2), .val (.int p3), .val (.int p4), .unset, .unset, .unset, .unset, .unset] [])) _
    refine XS.lloadN X0.here hx rfl (hb hby at_0) rfl ?_
    show Steps p.tables e below (s₁.setTop (mkF m 1 #[.val (.long q1), .second, .val (.int p2), .val (.int p3), .val (.int p4), .unset, .unset, .unset, .unset, .unset] [(.long q1)])) _
    refine X0.ldc2Long hx hown (mvT hZ (hw _ (List.mem_of_getElem? (i := 0) rfl))) (g := (mkF m 1 #[.val (.long q1), .second, .val (.int p2), .val (.int p3), .val (.int p4), .unset, .unset, .unset, .unset, .unset] [(.long q1)])) rfl (hb hby at_1) _ ?_
    show Steps p.tables e below (s₁.setTop (mkF m 4 #[.val (.long q1), .second, .val (.int p2), .val (.int p3), .val (.int p4), .unset, .unset, .unset, .unset, .unset] [(.long (9223372036854775807 : Int64)), (.long q1)])) _
    refine XS.land X0.here hx rfl (hb hby at_4) rfl ?_
    show Steps p.tables e below (s₁.setTop (mkF m 5 #[.val (.long q1), .second, .val (.int p2), .val (.int p3), .val (.int p4), .unset, .unset, .unset, .unset, .unset] [(.long (q1 &&& (9223372036854775807 : Int64)))])) _
    refine XS.iloadN X0.here hx rfl (hb hby at_5) rfl ?_
    show Steps p.tables e below (s₁.setTop (mkF m 6 #[.val (.long q1), .second, .val (.int p2), .val (.int p3), .val (.int p4), .unset, .unset, .unset, .unset, .unset] [(.int p2), (.long (q1 &&& (9223372036854775807 : Int64)))])) _
    refine XS.bipush X0.here hx rfl (hb hby at_6) ?_
    show Steps p.tables e below (s₁.setTop (mkF m 8 #[.val (.long q1), .second, .val (.int p2), .val (.int p3), .val (.int p4), .unset, .unset, .unset, .unset, .unset] [(.int (63 : Int32)), (.int p2), (.long (q1 &&& (9223372036854775807 : Int64)))])) _
    refine XS.iand X0.here hx rfl (hb hby at_8) rfl ?_
    show Steps p.tables e below (s₁.setTop (mkF m 9 #[.val (.long q1), .second, .val (.int p2), .val (.int p3), .val (.int p4), .unset, .unset, .unset, .unset, .unset] [(.int (p2 &&& (63 : Int32))), (.long (q1 &&& (9223372036854775807 : Int64)))])) _
    refine XS.lushr X0.here hx rfl (hb hby at_9) rfl ?_
    show Steps p.tables e below (s₁.setTop (mkF m 10 #[.val (.long q1), .second, .val (.int p2), .val (.int p3), .val (.int p4), .unset, .unset, .unset, .unset, .unset] [(.long (((q1 &&& (9223372036854775807 : Int64)).toUInt64 >>> ((p2 &&& (63 : Int32)) &&& 0x3f).toInt64.toUInt64).toInt64))])) _
    refine XS.lstore X0.here hx rfl (hb hby at_10) rfl (l' := #[.val (.long q1), .second, .val (.int p2), .val (.int p3), .val (.int p4), .val (.long (((q1 &&& (9223372036854775807 : Int64)).toUInt64 >>> ((p2 &&& (63 : Int32)) &&& 0x3f).toInt64.toUInt64).toInt64)), .second, .unset, .unset, .unset]) rfl ?_
    show Steps p.tables e below (s₁.setTop (mkF m 12 #[.val (.long q1), .second, .val (.int p2), .val (.int p3), .val (.int p4), .val (.long (((q1 &&& (9223372036854775807 : Int64)).toUInt64 >>> ((p2 &&& (63 : Int32)) &&& 0x3f).toInt64.toUInt64).toInt64)), .second, .unset, .unset, .unset] [])) _
    rw [← h_va]
    show Steps p.tables e below (s₁.setTop (mkF m 12 #[.val (.long q1), .second, .val (.int p2), .val (.int p3), .val (.int p4), .val (.long va), .second, .unset, .unset, .unset] [])) _
    refine XS.iloadN X0.here hx rfl (hb hby at_12) rfl ?_
    show Steps p.tables e below (s₁.setTop (mkF m 13 #[.val (.long q1), .second, .val (.int p2), .val (.int p3), .val (.int p4), .val (.long va), .second, .unset, .unset, .unset] [(.int p3)])) _
    refine X0.ldcInt hx hown (mvT hZ (hw _ (List.mem_of_getElem? (i := 1) rfl))) (g := (mkF m 13 #[.val (.long q1), .second, .val (.int p2), .val (.int p3), .val (.int p4), .val (.long va), .second, .unset, .unset, .unset] [(.int p3)])) rfl (hb hby at_13) _ ?_
    show Steps p.tables e below (s₁.setTop (mkF m 15 #[.val (.long q1), .second, .val (.int p2), .val (.int p3), .val (.int p4), .val (.long va), .second, .unset, .unset, .unset] [(.int (2147483647 : Int32)), (.int p3)])) _
    refine XS.iand X0.here hx rfl (hb hby at_15) rfl ?_
    show Steps p.tables e below (s₁.setTop (mkF m 16 #[.val (.long q1), .second, .val (.int p2), .val (.int p3), .val (.int p4), .val (.long va), .second, .unset, .unset, .unset] [(.int (p3 &&& (2147483647 : Int32)))])) _
    refine XS.bipush X0.here hx rfl (hb hby at_16) ?_
    show Steps p.tables e below (s₁.setTop (mkF m 18 #[.val (.long q1), .second, .val (.int p2), .val (.int p3), .val (.int p4), .val (.long va), .second, .unset, .unset, .unset] [(.int (19 : Int32)), (.int (p3 &&& (2147483647 : Int32)))])) _
    refine iremM X0 hx rfl (hb hby at_18) rfl (by decide) ?_
    show Steps p.tables e below (s₁.setTop (mkF m 19 #[.val (.long q1), .second, .val (.int p2), .val (.int p3), .val (.int p4), .val (.long va), .second, .unset, .unset, .unset] [(.int ((p3 &&& (2147483647 : Int32)) % (19 : Int32)))])) _
    rw [← h_kk]
    show Steps p.tables e below (s₁.setTop (mkF m 19 #[.val (.long q1), .second, .val (.int p2), .val (.int p3), .val (.int p4), .val (.long va), .second, .unset, .unset, .unset] [(.int kk)])) _
    refine st1 _ ?_
    show Steps p.tables e below (T1.setTop (mkF m 22 #[.val (.long q1), .second, .val (.int p2), .val (.int p3), .val (.int p4), .val (.long va), .second, .unset, .unset, .unset] [(.long wb)])) _
    refine XS.iload X1.here hx rfl (hb hby at_22) rfl ?_
    show Steps p.tables e below (T1.setTop (mkF m 24 #[.val (.long q1), .second, .val (.int p2), .val (.int p3), .val (.int p4), .val (.long va), .second, .unset, .unset, .unset] [(.int p4), (.long wb)])) _
    refine XS.iconst X1.here hx rfl (hb hby at_24) ?_
    show Steps p.tables e below (T1.setTop (mkF m 25 #[.val (.long q1), .second, .val (.int p2), .val (.int p3), .val (.int p4), .val (.long va), .second, .unset, .unset, .unset] [(.int (3 : Int32)), (.int p4), (.long wb)])) _
    refine XS.iand X1.here hx rfl (hb hby at_25) rfl ?_
    show Steps p.tables e below (T1.setTop (mkF m 26 #[.val (.long q1), .second, .val (.int p2), .val (.int p3), .val (.int p4), .val (.long va), .second, .unset, .unset, .unset] [(.int (p4 &&& (3 : Int32))), (.long wb)])) _
    refine XS.iconst X1.here hx rfl (hb hby at_26) ?_
    show Steps p.tables e below (T1.setTop (mkF m 27 #[.val (.long q1), .second, .val (.int p2), .val (.int p3), .val (.int p4), .val (.long va), .second, .unset, .unset, .unset] [(.int (1 : Int32)), (.int (p4 &&& (3 : Int32))), (.long wb)])) _
    refine XS.isub X1.here hx rfl (hb hby at_27) rfl ?_
    show Steps p.tables e below (T1.setTop (mkF m 28 #[.val (.long q1), .second, .val (.int p2), .val (.int p3), .val (.int p4), .val (.long va), .second, .unset, .unset, .unset] [(.int ((p4 &&& (3 : Int32)) - (1 : Int32))), (.long wb)])) _
    refine XS.i2l X1.here hx rfl (hb hby at_28) rfl ?_
    show Steps p.tables e below (T1.setTop (mkF m 29 #[.val (.long q1), .second, .val (.int p2), .val (.int p3), .val (.int p4), .val (.long va), .second, .unset, .unset, .unset] [(.long (((p4 &&& (3 : Int32)) - (1 : Int32)).toInt64)), (.long wb)])) _
    refine XS.ladd X1.here hx rfl (hb hby at_29) rfl ?_
    show Steps p.tables e below (T1.setTop (mkF m 30 #[.val (.long q1), .second, .val (.int p2), .val (.int p3), .val (.int p4), .val (.long va), .second, .unset, .unset, .unset] [(.long (wb + (((p4 &&& (3 : Int32)) - (1 : Int32)).toInt64)))])) _
    refine XS.lstore X1.here hx rfl (hb hby at_30) rfl (l' := #[.val (.long q1), .second, .val (.int p2), .val (.int p3), .val (.int p4), .val (.long va), .second, .val (.long (wb + (((p4 &&& (3 : Int32)) - (1 : Int32)).toInt64))), .second, .unset]) rfl ?_
    show Steps p.tables e below (T1.setTop (mkF m 32 #[.val (.long q1), .second, .val (.int p2), .val (.int p3), .val (.int p4), .val (.long va), .second, .val (.long (wb + (((p4 &&& (3 : Int32)) - (1 : Int32)).toInt64))), .second, .unset] [])) _
    rw [← h_vb]
    show Steps p.tables e below (T1.setTop (mkF m 32 #[.val (.long q1), .second, .val (.int p2), .val (.int p3), .val (.int p4), .val (.long va), .second, .val (.long vb), .second, .unset] [])) _
    refine XS.iconst X1.here hx rfl (hb hby at_32) ?_
    show Steps p.tables e below (T1.setTop (mkF m 33 #[.val (.long q1), .second, .val (.int p2), .val (.int p3), .val (.int p4), .val (.long va), .second, .val (.long vb), .second, .unset] [(.int (1 : Int32))])) _
    refine XS.istore X1.here hx rfl (hb hby at_33) rfl (l' := #[.val (.long q1), .second, .val (.int p2), .val (.int p3), .val (.int p4), .val (.long va), .second, .val (.long vb), .second, .val (.int (1 : Int32))]) rfl ?_
    show Steps p.tables e below (T1.setTop (mkF m 35 #[.val (.long q1), .second, .val (.int p2), .val (.int p3), .val (.int p4), .val (.long va), .second, .val (.long vb), .second, .val (.int (1 : Int32))] [])) _
    refine XS.lload X1.here hx rfl (hb hby at_35) rfl ?_
    show Steps p.tables e below (T1.setTop (mkF m 37 #[.val (.long q1), .second, .val (.int p2), .val (.int p3), .val (.int p4), .val (.long va), .second, .val (.long vb), .second, .val (.int (1 : Int32))] [(.long va)])) _
    refine XS.lconst X1.here hx rfl (hb hby at_37) ?_
    show Steps p.tables e below (T1.setTop (mkF m 38 #[.val (.long q1), .second, .val (.int p2), .val (.int p3), .val (.int p4), .val (.long va), .second, .val (.long vb), .second, .val (.int (1 : Int32))] [(.long (0 : Int64)), (.long va)])) _
    refine XS.lcmp X1.here hx rfl (hb hby at_38) rfl ?_
    refine st2 _ ?_
    show Steps p.tables e below (T2.setTop (mkF m 62 #[.val (.long q1), .second, .val (.int p2), .val (.int p3), .val (.int p4), .val (.long va), .second, .val (.long vb), .second, .val (.int (1 : Int32))] [])) _
    refine XS.lload X2.here hx rfl (hb hby at_62) rfl ?_
    show Steps p.tables e below (T2.setTop (mkF m 64 #[.val (.long q1), .second, .val (.int p2), .val (.int p3), .val (.int p4), .val (.long va), .second, .val (.long vb), .second, .val (.int (1 : Int32))] [(.long vb)])) _
    refine XS.lconst X2.here hx rfl (hb hby at_64) ?_
    show Steps p.tables e below (T2.setTop (mkF m 65 #[.val (.long q1), .second, .val (.int p2), .val (.int p3), .val (.int p4), .val (.long va), .second, .val (.long vb), .second, .val (.int (1 : Int32))] [(.long (0 : Int64)), (.long vb)])) _
    refine XS.lcmp X2.here hx rfl (hb hby at_65) rfl ?_
    refine st5 _ ?_
    show Steps p.tables e below (T5.setTop (mkF m 94 #[.val (.long q1), .second, .val (.int p2), .val (.int p3), .val (.int p4), .val (.long va), .second, .val (.long vb), .second, .val (.int (1 : Int32))] [])) _
    refine XS.iload X5.here hx rfl (hb hby at_94) rfl ?_
    show Steps p.tables e below (T5.setTop (mkF m 96 #[.val (.long q1), .second, .val (.int p2), .val (.int p3), .val (.int p4), .val (.long va), .second, .val (.long vb), .second, .val (.int (1 : Int32))] [(.int (1 : Int32))])) _
    exact retN X5 hx (t := .boolean) Bd.returns (by simp) (hb hby at_96) hr
  · show own_QL n0 _ T5.heap _
    rw [e5]
    exact ⟨rfl, N1⟩
theorem own_eql {args : Array Value} {first s : State} {o : Option Outcome} {idx : List Nat} {t : Term} {k : Int64} (h : (Jvm.Cond.eq t (.long k)).value args first o s idx = some true) : t.eval args first o idx s = some (.long k) := by
  simp only [Cond.value, Term.eval] at h; cases ht : t.eval args first o idx s with | none => simp [ht] at h | some x => cases x <;> simp [ht] at h ⊢; exact h
theorem own_int {args : Array Value} {first s : State} {o : Option Outcome} {idx : List Nat} {t : Term} {k : Int32} (h : (Jvm.Cond.eq t (.int k)).value args first o s idx = some true) : t.eval args first o idx s = some (.int k) := by
  simp only [Cond.value, Term.eval] at h; cases ht : t.eval args first o idx s with | none => simp [ht] at h | some x => cases x <;> simp [ht] at h ⊢; exact h
theorem own_len {args : Array Value} {s : State} {t : Term} {a : Addr} {cl : Cell} {k : Int32} {n : Nat} (ht : t.eval args s none [] s = some (.ref a)) (hc : s.heap[a]? = some cl) (h : (Term.length t).eval args s none [] s = some (.int k)) (hk : k.toInt = n) : cl.slots.size = n := by
  obtain ⟨x, c', e1, e2, e3⟩ := Term.length_spec h
  cases ht.symm.trans e1
  cases hc.symm.trans (State.arrayAt?_spec e2).1
  have h31 := SBG.length_lt e1 e2 h
  rw [Value.int.inj e3, len_toInt h31] at hk
  omega
set_option maxRecDepth 65536 in
set_option maxHeartbeats 40000000 in
theorem comes_1 {Post : Tables → Env → Array Value → State → Outcome → State → Prop} (hpost : ∀ tb e args s v u, (limb_1_1.after args s (.returned v) u = true ∧ limb_1_2.after args s (.returned v) u = true ∧ True) → FrameEnd s (.returned v) u (Jvm.fieldLocs frame_1_writes args s ++ Jvm.arrayLocs frame_1_arrays args s ++ Jvm.staticLocs frame_1_statics s) 16 128 → Post tb e args s (.returned v) u) :
    ArmFor flags0 classFile x code maxLocals ret World_1 tables_1 room_1 Calls_1 rest_1 Pre_1 Post := by
  intro l hfl _ _ p e ha hc hk s m args below hf hA hF happ hP
  obtain ⟨hcalls, hrest, hpre⟩ := hP
  obtain ⟨-, -, -, hnamed, -, -, -, hat⟩ := (Spec.applies_iff hf).mp happ
  obtain ⟨hg, hn⟩ := and_e (Cond.before_iff.mp (show (Jvm.Cond.and given_1 narrow_1).before args s = true from hpre))
  obtain ⟨g0, hg⟩ := and_e hg
  obtain ⟨g1, hg⟩ := and_e hg
  obtain ⟨g2, hg⟩ := and_e hg
  obtain ⟨g3, g4⟩ := and_e hg
  obtain ⟨w0, w1, w2, w3, rfl⟩ : ∃ w0 w1 w2 w3 : Value, args = #[w0, w1, w2, w3] := by
    have hs : args.size = 4 := by simpa [Cond.value, given_1] using g0
    obtain ⟨L⟩ := args
    match L, hs with
    | [w0, w1, w2, w3], _ => exact ⟨w0, w1, w2, w3, rfl⟩
  have hw := fun d (hd : d ∈ tables_1) => atoms_spec (ws := Jvm.Cond.code x code maxLocals ret :: tables_1) hat d (List.mem_cons_of_mem _ hd)
  obtain ⟨i0, ei0⟩ := isL_v g1
  obtain rfl : w0 = (.long i0) := Option.some.inj ei0
  obtain ⟨i1, ei1⟩ := is_v g2
  obtain rfl : w1 = (.int i1) := Option.some.inj ei1
  obtain ⟨i2, ei2⟩ := is_v g3
  obtain rfl : w2 = (.int i2) := Option.some.inj ei2
  obtain ⟨i3, ei3⟩ := is_v g4
  obtain rfl : w3 = (.int i3) := Option.some.inj ei3
  obtain ⟨j0, hn⟩ := and_e hn
  obtain ⟨j1, hn⟩ := and_e hn
  obtain ⟨j2, hn⟩ := and_e hn
  obtain ⟨j3, hn⟩ := and_e hn
  obtain ⟨j4, hn⟩ := and_e hn
  obtain ⟨j5, hn⟩ := and_e hn
  obtain ⟨j6, hn⟩ := and_e hn
  obtain ⟨j7, hn⟩ := and_e hn
  obtain ⟨j8, hn⟩ := and_e hn
  obtain ⟨j9, hn⟩ := and_e hn
  obtain ⟨j10, hn⟩ := and_e hn
  obtain ⟨j11, hn⟩ := and_e hn
  obtain ⟨j12, hn⟩ := and_e hn
  obtain ⟨j13, hn⟩ := and_e hn
  obtain ⟨j14, hn⟩ := and_e hn
  obtain ⟨j15, hn⟩ := and_e hn
  obtain ⟨j16, hn⟩ := and_e hn
  obtain ⟨j17, hn⟩ := and_e hn
  obtain ⟨j18, hn⟩ := and_e hn
  obtain ⟨j19, hn⟩ := and_e hn
  have j20 := hn
  obtain ⟨wa, va⟩ := arr_v j0
  obtain ⟨cl, A1⟩ := Arr.start va j0
  have S1 := Sta.start va (Or.inr ⟨(hw _ (List.mem_of_getElem? (i := 27) rfl)), (hw _ (List.mem_of_getElem? (i := 39) rfl))⟩)
  have C1 : cl.slots.size = 19 := own_len va A1.1 (own_int j1) (by decide)
  have V1 : ∀ i, i < 19 → cl.slots[i]? = some (.long (own_pw i)) := fun i hi => by
    match i, hi with
    | 0, _ => exact (elem_in (own_eql j2) va (Term.int_eval _) A1.1).2
    | 1, _ => exact (elem_in (own_eql j3) va (Term.int_eval _) A1.1).2
    | 2, _ => exact (elem_in (own_eql j4) va (Term.int_eval _) A1.1).2
    | 3, _ => exact (elem_in (own_eql j5) va (Term.int_eval _) A1.1).2
    | 4, _ => exact (elem_in (own_eql j6) va (Term.int_eval _) A1.1).2
    | 5, _ => exact (elem_in (own_eql j7) va (Term.int_eval _) A1.1).2
    | 6, _ => exact (elem_in (own_eql j8) va (Term.int_eval _) A1.1).2
    | 7, _ => exact (elem_in (own_eql j9) va (Term.int_eval _) A1.1).2
    | 8, _ => exact (elem_in (own_eql j10) va (Term.int_eval _) A1.1).2
    | 9, _ => exact (elem_in (own_eql j11) va (Term.int_eval _) A1.1).2
    | 10, _ => exact (elem_in (own_eql j12) va (Term.int_eval _) A1.1).2
    | 11, _ => exact (elem_in (own_eql j13) va (Term.int_eval _) A1.1).2
    | 12, _ => exact (elem_in (own_eql j14) va (Term.int_eval _) A1.1).2
    | 13, _ => exact (elem_in (own_eql j15) va (Term.int_eval _) A1.1).2
    | 14, _ => exact (elem_in (own_eql j16) va (Term.int_eval _) A1.1).2
    | 15, _ => exact (elem_in (own_eql j17) va (Term.int_eval _) A1.1).2
    | 16, _ => exact (elem_in (own_eql j18) va (Term.int_eval _) A1.1).2
    | 17, _ => exact (elem_in (own_eql j19) va (Term.int_eval _) A1.1).2
    | 18, _ => exact (elem_in (own_eql j20) va (Term.int_eval _) A1.1).2
    | n + 19, h => exact absurd h (by omega)
  obtain ⟨n, o, h1, h2, h3, _, L, rfl, ⟨rfl, N⟩, hq⟩ := own_law l s _ hw tables_1 wa cl i0 i1 i2 i3 s.heap s.heap.size (Old.start s) ⟨S1, A1, C1, V1⟩ p e ha hc hk s m _ below hf ((Spec.applies_iff_loose hf).mp happ).1 ⟨rfl, State.Warmed39.refl s, rfl⟩ trivial
  refine ⟨n, _, h1, h2, h3, hpost _ _ _ _ _ _ ⟨Cond.after_iff.mpr rfl, Cond.after_iff.mpr (eq_i res_at (Term.int_eval (1)) rfl), trivial⟩ ⟨hq.1, hq.2.1, (hq.2.2.sift fun y hy => Or.inr (N y hy)).mono (by decide) (by decide)⟩⟩
theorem main_1_1 : Claimed_1_1 := comes_1 fun _ _ _ _ _ _ h hF => ⟨h.1, hF⟩
theorem main_1_2 : Claimed_1_2 := comes_1 fun _ _ _ _ _ _ h hF => ⟨h.2.1, hF⟩
end Jvm.Pilot.@@N@@
namespace Jvm.Pilot.@@N@@
open Jvm Jvm.ClassFile Sem Op Lib Jvm.Free Jvm.Stand Jvm.Pilot.@@N@@.Jvm.D
/-! MADE BY PROGRAM (witnessworld.py) out of the Statement's table words and the real class files: 17 classes; the members and pool entries that the words name. The judged class is class 1, her method 1. -/
namespace start1
open Jvm.ClassFile
def u (s : String) : CpInfo := .utf8 (stringToUtf16 s)
/-- a pool by its gaps: so many unusable entries, then the entry; so many at the end -/
def gap : Nat → List CpInfo → List CpInfo
  | 0, r => r
  | n + 1, r => .unusable :: gap n r
def poolList (es : List (Nat × CpInfo)) (last : Nat) : List CpInfo := es.foldr (fun e r => gap e.1 (e.2 :: r)) (gap last [])
def pool (es : List (Nat × CpInfo)) (last : Nat) : Array CpInfo := ⟨poolList es last⟩
def fileOf (pool : Array CpInfo) (this : Nat) (attrs : Array Attribute := #[]) (ms : Array MethodInfo := #[]) (fl : Nat := 33) (sup : Nat := 0) (ifs : Array Nat := #[]) (fds : Array FieldInfo := #[]) : ClassFile where
  minorVersion := 0
  majorVersion := 65
  constantPool := pool
  accessFlags := fl
  thisClass := this
  superClass := sup
  interfaces := ifs
  fields := fds
  methods := ms
  attributes := attrs
def plain (name : String) (sup : Option ClassId) : Class where
  name := name
  kind := .ordinary
  loader := none
  accessFlags := 33
  super := sup
  interfaces := #[]
  cf := none
  fields := #[]
  methods := #[]
  instanceTypes := #[]
  staticTypes := #[]
  resolved := #[]
  callSites := []
  init := .initialized
  statics := none
  mirror := none

def pool0 : Array CpInfo := pool [(5, u "<init>"), (0, u "()V"), (1, .class_ 10), (1, u "java/lang/Object")] 113

def k0m0 : Method := { name := "<init>", desc := "()V", sig := { parameters := [], returnType := none }, accessFlags := 1, code := none }
/-- java/lang/Object -/
def k0 : Class := { plain "java/lang/Object" none with
  accessFlags := 33
  interfaces := #[]
  cf := some (fileOf pool0 8 #[] #[{ accessFlags := 1, nameIndex := 5, descriptorIndex := 6, attributes := #[] }] 33 0 #[] #[])
  fields := #[]
  methods := #[k0m0]
  instanceTypes := #[]
  staticTypes := #[]
  resolved := Array.replicate 124 none
  statics := none }

def pool1 : Array CpInfo := pool [(2, .class_ 4), (1, u "java/lang/Object"), (0, u "<init>"), (0, u "()V"), (2, .long 9223372036854775807), (1, .integer 2147483647), (0, .methodref 13 14), (0, .class_ 15), (0, .nameAndType 16 17), (0, u "com/example/midpoint/midpoint/digits/PowersOfTenDigitCountPinLaw"), (0, u "pow10"), (0, u "(I)J"), (0, .methodref 19 20), (0, .class_ 21), (0, .nameAndType 22 23), (0, u "com/example/midpoint/midpoint/digits/PowersOfTen"), (0, u "digitCount"), (0, u "(J)I"), (0, .methodref 13 25), (0, .nameAndType 26 23), (0, u "digits"), (0, .long 10), (1, .long 100), (1, .long 1000), (1, .long 10000), (1, .long 100000), (1, .long 1000000), (1, .long 10000000), (1, .long 100000000), (1, .long 1000000000), (1, .long 10000000000), (1, .long 100000000000), (1, .long 1000000000000), (1, .long 10000000000000), (1, .long 100000000000000), (1, .long 1000000000000000), (1, .long 10000000000000000), (1, .long 100000000000000000), (1, .long 1000000000000000000), (3, u "law"), (0, u "(JIII)Z")] 3

def k1m0 : Method := { name := "<init>", desc := "()V", sig := { parameters := [], returnType := none }, accessFlags := 1, code := none }
def k1c1 : Code := { maxStack := 4, maxLocals := 10, code := code, exceptionTable := #[], attributes := #[] }
def k1m1 : Method := { name := "law", desc := "(JIII)Z", sig := { parameters := [.long, .int, .int, .int], returnType := some .boolean }, accessFlags := 9, code := some k1c1 }
def k1c2 : Code := { maxStack := 5, maxLocals := 2, code := method_3_code, exceptionTable := #[], attributes := #[] }
def k1m2 : Method := { name := "pow10", desc := "(I)J", sig := { parameters := [.int], returnType := some .long }, accessFlags := 10, code := some k1c2 }
def k1c3 : Code := { maxStack := 4, maxLocals := 2, code := method_4_code, exceptionTable := #[], attributes := #[] }
def k1m3 : Method := { name := "digits", desc := "(J)I", sig := { parameters := [.long], returnType := some .int }, accessFlags := 10, code := some k1c3 }
/-- com/example/midpoint/midpoint/digits/PowersOfTenDigitCountPinLaw -/
def k1 : Class := { plain "com/example/midpoint/midpoint/digits/PowersOfTenDigitCountPinLaw" (some 0) with
  accessFlags := 49
  interfaces := #[]
  cf := some (fileOf pool1 13 #[] #[{ accessFlags := 1, nameIndex := 5, descriptorIndex := 6, attributes := #[] }, { accessFlags := 9, nameIndex := 65, descriptorIndex := 66, attributes := #[] }, { accessFlags := 10, nameIndex := 16, descriptorIndex := 17, attributes := #[] }, { accessFlags := 10, nameIndex := 26, descriptorIndex := 23, attributes := #[] }] 49 2 #[] #[])
  fields := #[]
  methods := #[k1m0, k1m1, k1m2, k1m3]
  instanceTypes := #[]
  staticTypes := #[]
  resolved := Array.replicate 70 none
  statics := none }

def pool2 : Array CpInfo := pool [(2, .class_ 4), (1, u "java/lang/Object"), (0, u "<init>"), (0, u "()V"), (0, .fieldref 8 9), (0, .class_ 10), (0, .nameAndType 11 12), (0, u "com/example/midpoint/midpoint/digits/PowersOfTen"), (0, u "POWERS"), (0, u "[J"), (0, .class_ 14), (0, u "java/lang/Long"), (0, .methodref 13 16), (0, .nameAndType 17 18), (0, u "numberOfLeadingZeros"), (0, u "(J)I"), (6, u "digitCount")] 4

def k2m0 : Method := { name := "<init>", desc := "()V", sig := { parameters := [], returnType := none }, accessFlags := 2, code := none }
def k2c1 : Code := { maxStack := 4, maxLocals := 4, code := prog_16_method_3_code, exceptionTable := #[], attributes := #[] }
def k2m1 : Method := { name := "digitCount", desc := "(J)I", sig := { parameters := [.long], returnType := some .int }, accessFlags := 8, code := some k2c1 }
/-- com/example/midpoint/midpoint/digits/PowersOfTen -/
def k2 : Class := { plain "com/example/midpoint/midpoint/digits/PowersOfTen" (some 0) with
  accessFlags := 48
  interfaces := #[]
  cf := some (fileOf pool2 8 #[] #[{ accessFlags := 2, nameIndex := 5, descriptorIndex := 6, attributes := #[] }, { accessFlags := 8, nameIndex := 25, descriptorIndex := 18, attributes := #[] }] 48 2 #[] #[{ accessFlags := 26, nameIndex := 11, descriptorIndex := 12, attributes := #[] }])
  fields := #[{ name := "POWERS", type := (.array .long), accessFlags := 26, slot := 0, constantValue := 0 }]
  methods := #[k2m0, k2m1]
  instanceTypes := #[]
  staticTypes := #[(.array .long)]
  resolved := Array.replicate 30 none
  statics := some 0 }

def pool3 : Array CpInfo := pool [(1, .class_ 2), (0, u "java/io/Serializable"), (0, .class_ 4), (0, u "java/lang/Object")] 2

/-- java/io/Serializable -/
def k3 : Class := { plain "java/io/Serializable" (some 0) with
  accessFlags := 1537
  interfaces := #[]
  cf := some (fileOf pool3 1 #[] #[] 1537 3 #[] #[])
  fields := #[]
  methods := #[]
  instanceTypes := #[]
  staticTypes := #[]
  resolved := Array.replicate 7 none
  statics := none }

def pool4 : Array CpInfo := pool [(2, .class_ 4), (1, u "java/lang/Object"), (0, u "<init>"), (0, u "()V"), (1, .class_ 10), (1, u "java/lang/Number"), (2, .class_ 14), (0, u "java/io/Serializable"), (0, u "serialVersionUID"), (0, u "J")] 20

def k4m0 : Method := { name := "<init>", desc := "()V", sig := { parameters := [], returnType := none }, accessFlags := 1, code := none }
/-- java/lang/Number -/
def k4 : Class := { plain "java/lang/Number" (some 0) with
  accessFlags := 1057
  interfaces := #[3]
  cf := some (fileOf pool4 8 #[] #[{ accessFlags := 1, nameIndex := 5, descriptorIndex := 6, attributes := #[] }] 1057 2 #[13] #[{ accessFlags := 26, nameIndex := 15, descriptorIndex := 16, attributes := #[] }])
  fields := #[{ name := "serialVersionUID", type := .long, accessFlags := 26, slot := 0, constantValue := 0 }]
  methods := #[k4m0]
  instanceTypes := #[]
  staticTypes := #[.long]
  resolved := Array.replicate 37 none
  statics := none }

def pool5 : Array CpInfo := pool [(1, .class_ 2), (0, u "java/lang/Comparable"), (0, .class_ 4), (0, u "java/lang/Object")] 7

/-- java/lang/Comparable -/
def k5 : Class := { plain "java/lang/Comparable" (some 0) with
  accessFlags := 1537
  interfaces := #[]
  cf := some (fileOf pool5 1 #[] #[] 1537 3 #[] #[])
  fields := #[]
  methods := #[]
  instanceTypes := #[]
  staticTypes := #[]
  resolved := Array.replicate 12 none
  statics := none }

def pool6 : Array CpInfo := pool [(1, .class_ 2), (0, u "java/lang/constant/Constable"), (0, .class_ 4), (0, u "java/lang/Object")] 6

/-- java/lang/constant/Constable -/
def k6 : Class := { plain "java/lang/constant/Constable" (some 0) with
  accessFlags := 1537
  interfaces := #[]
  cf := some (fileOf pool6 1 #[] #[] 1537 3 #[] #[])
  fields := #[]
  methods := #[]
  instanceTypes := #[]
  staticTypes := #[]
  resolved := Array.replicate 11 none
  statics := none }

def pool7 : Array CpInfo := pool [(1, .class_ 2), (0, u "java/lang/constant/ConstantDesc"), (0, .class_ 4), (0, u "java/lang/Object")] 32

/-- java/lang/constant/ConstantDesc -/
def k7 : Class := { plain "java/lang/constant/ConstantDesc" (some 0) with
  accessFlags := 1537
  interfaces := #[]
  cf := some (fileOf pool7 1 #[] #[] 1537 3 #[] #[])
  fields := #[]
  methods := #[]
  instanceTypes := #[]
  staticTypes := #[]
  resolved := Array.replicate 37 none
  statics := none }

def pool8 : Array CpInfo := pool [(1, .class_ 2), (0, u "java/lang/Long"), (15, .class_ 20), (1, u "java/lang/Integer"), (79, u "numberOfLeadingZeros"), (0, u "(J)I"), (133, .class_ 237), (1, u "java/lang/Long$LongCache"), (33, .class_ 272), (0, u "java/lang/Number"), (2, u "value"), (0, u "J"), (31, .methodref 18 309), (0, .nameAndType 100 310), (0, u "(I)I"), (50, u "TYPE"), (0, u "Ljava/lang/Class;"), (0, .class_ 364), (0, u "java/lang/Comparable"), (0, .class_ 366), (0, u "java/lang/constant/Constable"), (0, .class_ 368), (0, u "java/lang/constant/ConstantDesc"), (0, u "MIN_VALUE"), (1, u "MAX_VALUE"), (4, u "SIZE"), (0, u "I"), (1, u "BYTES"), (1, u "serialVersionUID")] 142

def k8c0 : Code := { maxStack := 3, maxLocals := 3, code := jdk_35_method_48_code, exceptionTable := #[], attributes := #[] }
def k8m0 : Method := { name := "numberOfLeadingZeros", desc := "(J)I", sig := { parameters := [.long], returnType := some .int }, accessFlags := 9, code := some k8c0 }
/-- java/lang/Long -/
def k8 : Class := { plain "java/lang/Long" (some 4) with
  accessFlags := 49
  interfaces := #[5, 6, 7]
  cf := some (fileOf pool8 1 #[.nestMembers #[235]] #[{ accessFlags := 9, nameIndex := 100, descriptorIndex := 101, attributes := #[] }] 49 271 #[363, 365, 367] #[{ accessFlags := 25, nameIndex := 369, descriptorIndex := 276, attributes := #[] }, { accessFlags := 25, nameIndex := 371, descriptorIndex := 276, attributes := #[] }, { accessFlags := 25, nameIndex := 361, descriptorIndex := 362, attributes := #[] }, { accessFlags := 18, nameIndex := 275, descriptorIndex := 276, attributes := #[] }, { accessFlags := 25, nameIndex := 376, descriptorIndex := 377, attributes := #[] }, { accessFlags := 25, nameIndex := 379, descriptorIndex := 377, attributes := #[] }, { accessFlags := 26, nameIndex := 381, descriptorIndex := 276, attributes := #[] }])
  fields := #[{ name := "MIN_VALUE", type := .long, accessFlags := 25, slot := 0, constantValue := 0 }, { name := "MAX_VALUE", type := .long, accessFlags := 25, slot := 1, constantValue := 0 }, { name := "TYPE", type := (.object "java/lang/Class"), accessFlags := 25, slot := 2, constantValue := 0 }, { name := "value", type := .long, accessFlags := 18, slot := 0, constantValue := 0 }, { name := "SIZE", type := .int, accessFlags := 25, slot := 3, constantValue := 0 }, { name := "BYTES", type := .int, accessFlags := 25, slot := 4, constantValue := 0 }, { name := "serialVersionUID", type := .long, accessFlags := 26, slot := 5, constantValue := 0 }]
  methods := #[k8m0]
  instanceTypes := #[.long]
  staticTypes := #[.long, .long, (.object "java/lang/Class"), .int, .int, .long]
  resolved := Array.replicate 524 none
  statics := none }

def pool9 : Array CpInfo := pool [(1, .class_ 2), (0, u "java/lang/Integer"), (16, u "digits"), (0, u "[C"), (32, u "numberOfLeadingZeros"), (0, u "(I)I"), (30, u "DigitOnes"), (0, u "[B"), (2, u "DigitTens"), (99, .class_ 190), (0, u "java/lang/Integer$IntegerCache"), (3, u "I"), (8, .class_ 204), (0, u "java/lang/Number"), (2, u "value"), (56, .integer 65536), (37, u "TYPE"), (0, u "Ljava/lang/Class;"), (0, .class_ 305), (0, u "java/lang/Comparable"), (0, .class_ 307), (0, u "java/lang/constant/Constable"), (0, .class_ 309), (0, u "java/lang/constant/ConstantDesc"), (0, u "MIN_VALUE"), (1, u "MAX_VALUE"), (3, u "SIZE"), (1, u "BYTES"), (1, u "serialVersionUID"), (0, u "J")] 131

def k9c0 : Code := { maxStack := 3, maxLocals := 2, code := jdk_33_method_47_code, exceptionTable := #[], attributes := #[] }
def k9m0 : Method := { name := "numberOfLeadingZeros", desc := "(I)I", sig := { parameters := [.int], returnType := some .int }, accessFlags := 9, code := some k9c0 }
/-- java/lang/Integer -/
def k9 : Class := { plain "java/lang/Integer" (some 4) with
  accessFlags := 49
  interfaces := #[5, 6, 7]
  cf := some (fileOf pool9 1 #[.nestMembers #[189]] #[{ accessFlags := 9, nameIndex := 53, descriptorIndex := 54, attributes := #[] }] 49 203 #[304, 306, 308] #[{ accessFlags := 25, nameIndex := 310, descriptorIndex := 194, attributes := #[] }, { accessFlags := 25, nameIndex := 312, descriptorIndex := 194, attributes := #[] }, { accessFlags := 25, nameIndex := 302, descriptorIndex := 303, attributes := #[] }, { accessFlags := 24, nameIndex := 19, descriptorIndex := 20, attributes := #[] }, { accessFlags := 24, nameIndex := 89, descriptorIndex := 86, attributes := #[] }, { accessFlags := 24, nameIndex := 85, descriptorIndex := 86, attributes := #[] }, { accessFlags := 18, nameIndex := 207, descriptorIndex := 194, attributes := #[] }, { accessFlags := 25, nameIndex := 316, descriptorIndex := 194, attributes := #[] }, { accessFlags := 25, nameIndex := 318, descriptorIndex := 194, attributes := #[] }, { accessFlags := 26, nameIndex := 320, descriptorIndex := 321, attributes := #[] }])
  fields := #[{ name := "MIN_VALUE", type := .int, accessFlags := 25, slot := 0, constantValue := 0 }, { name := "MAX_VALUE", type := .int, accessFlags := 25, slot := 1, constantValue := 0 }, { name := "TYPE", type := (.object "java/lang/Class"), accessFlags := 25, slot := 2, constantValue := 0 }, { name := "digits", type := (.array .char), accessFlags := 24, slot := 3, constantValue := 0 }, { name := "DigitTens", type := (.array .byte), accessFlags := 24, slot := 4, constantValue := 0 }, { name := "DigitOnes", type := (.array .byte), accessFlags := 24, slot := 5, constantValue := 0 }, { name := "value", type := .int, accessFlags := 18, slot := 0, constantValue := 0 }, { name := "SIZE", type := .int, accessFlags := 25, slot := 6, constantValue := 0 }, { name := "BYTES", type := .int, accessFlags := 25, slot := 7, constantValue := 0 }, { name := "serialVersionUID", type := .long, accessFlags := 26, slot := 8, constantValue := 0 }]
  methods := #[k9m0]
  instanceTypes := #[.int]
  staticTypes := #[.int, .int, (.object "java/lang/Class"), (.array .char), (.array .byte), (.array .byte), .int, .int, .long]
  resolved := Array.replicate 453 none
  statics := none }

def pool10 : Array CpInfo := pool [(1, u "java/lang/Cloneable"), (0, .class_ 1), (0, u "java/lang/Object"), (0, .class_ 3)] 3

/-- java/lang/Cloneable -/
def k10 : Class := { plain "java/lang/Cloneable" (some 0) with
  accessFlags := 1537
  interfaces := #[]
  cf := some (fileOf pool10 2 #[] #[] 1537 4 #[] #[])
  fields := #[]
  methods := #[]
  instanceTypes := #[]
  staticTypes := #[]
  resolved := Array.replicate 8 none
  statics := none }

/-- the primitive byte -/
def k11 : Class := { plain "byte" none with kind := .primitive 'B', accessFlags := 0x411 }
/-- [B -/
def k12 : Class := { plain "[B" (some 0) with kind := .array 11 .byte, interfaces := #[10, 3], accessFlags := 1041 }

/-- the primitive int -/
def k13 : Class := { plain "int" none with kind := .primitive 'I', accessFlags := 0x411 }
/-- [I -/
def k14 : Class := { plain "[I" (some 0) with kind := .array 13 .int, interfaces := #[10, 3], accessFlags := 1041 }

/-- the primitive long -/
def k15 : Class := { plain "long" none with kind := .primitive 'J', accessFlags := 0x411 }
/-- [J -/
def k16 : Class := { plain "[J" (some 0) with kind := .array 15 .long, interfaces := #[10, 3], accessFlags := 1041 }

def heap : Heap := #[{ cls := 2, slots := #[.ref 1], vm := .statics 2 },
  { cls := 16, slots := #[.long 1, .long 10, .long 100, .long 1000, .long 10000, .long 100000, .long 1000000, .long 10000000, .long 100000000, .long 1000000000, .long 10000000000, .long 100000000000, .long 1000000000000, .long 10000000000000, .long 100000000000000, .long 1000000000000000, .long 10000000000000000, .long 100000000000000000, .long 1000000000000000000], vm := .none }]
def classes : Array Class := #[k0, k1, k2, k3, k4, k5, k6, k7, k8, k9, k10, k11, k12, k13, k14, k15, k16]
def interned : List (Array UInt16 × Addr) := []
def slotsUsed : Nat := 20
def theMethod : MethodId := ⟨1, 1⟩
def args0 : Array Value := #[.long 5, .int 1, .int 2, .int 3]
def aboutOver (below : List Frame) : State where
  vm := { classes := classes, interned := interned.toArray }
  heap := heap
  slotsUsed := slotsUsed
  threads := #[{ frames := .invoking theMethod args0 :: below }]
def below0 : List Frame := [.native { method := ⟨0, 0⟩, args := #[] }]
def about1 : State := aboutOver below0
def p0 : Program := .bare "" "" ""
def e0 : Env := launch0.env 0 0 0
theorem w_frames : about1.frames = Frame.invoking theMethod args0 :: below0 := rfl
set_option maxRecDepth 65536 in
theorem w_args : argsFit about1.vm theMethod args0 = true := by decide +kernel
set_option maxRecDepth 65536 in
theorem w_heap : heapFits about1 = true := by decide +kernel
set_option maxRecDepth 65536 in
theorem w_runnable : about1.curStatus? = some .runnable := by decide +kernel
set_option maxRecDepth 65536 in
theorem w_alone : about1.alone = true := by decide +kernel
set_option maxRecDepth 65536 in
theorem w_named : about1.methodNamed? x = some theMethod := by decide +kernel
set_option maxRecDepth 65536 in
theorem w_hears : about1.hears theMethod below0 = true := by decide +kernel
set_option maxRecDepth 65536 in
theorem w_ripe : about1.ripe theMethod args0 below0 = true := by decide +kernel
theorem w_running : about1.status = .running := rfl
set_option maxRecDepth 65536 in
theorem w_room : about1.hasRoom e0.platform room_1 = true :=
  launch0.hasRoom_least _ room_1 (by decide +kernel) (by decide +kernel) (by decide +kernel) (by decide +kernel) (by decide +kernel) (by decide +kernel)
theorem allAtoms_all (ts : List Jvm.Cond) (a : Array Jvm.Value) (st : Jvm.State) : (allAtoms ts).before a st = ts.all (fun c => c.before a st) := by
  induction ts with
  | nil => rfl
  | cons c t ih =>
    show (Jvm.Cond.and c (allAtoms t)).before a st = _
    rw [Jvm.Cond.before_and, ih, List.all_cons]
def words1 : List Jvm.Cond := Jvm.Cond.code x code maxLocals ret :: tables_1
/-- a 'code' word, met by the world's own term for the bytes: nothing is compared byte by byte -/
theorem code_word {y : MethodName} {bytes : ByteArray} {mx : Nat} {rt : Option FieldType} {a : Array Value} {s : State} {m : MethodId} {meth : Method} {c : Code} (h1 : s.methodNamed? y = some m) (h2 : s.vm.method? m = some meth) (h3 : meth.code = some c) (h4 : c.code = bytes)
    (h5 : (c.maxLocals == mx && c.exceptionTable.isEmpty && decide (c.maxStack ≤ mostOperands) && decide (meth.sig.returnType = rt) && !meth.locks && decide (parseMethodDescriptor y.desc = some meth.sig)) = true) : (Jvm.Cond.code y bytes mx rt).before a s = true := by
  simp only [Bool.and_eq_true, beq_iff_eq, Bool.not_eq_true', decide_eq_true_eq] at h5
  obtain ⟨⟨⟨⟨⟨g1, g2⟩, g3⟩, g4⟩, g5⟩, g6⟩ := h5
  simp [Cond.before, Cond.holds, Cond.value, h1, h2, h3, h4, g1, g2, g3, g4, g5, g6]
def isCode : Jvm.Cond → Bool
  | .code _ _ _ _ => true
  | _ => false
theorem all_split {L : List Jvm.Cond} {P : Jvm.Cond → Bool} (h1 : L.all (fun c => isCode c || P c) = true) (h2 : ∀ c ∈ L.filter isCode, P c = true) : L.all P = true := by
  refine List.all_eq_true.mpr fun c hc => ?_
  have h := List.all_eq_true.mp h1 c hc
  rcases Bool.eq_false_or_eq_true (isCode c) with hi | hi
  · exact h2 c (List.mem_filter.mpr ⟨hc, hi⟩)
  · simpa [hi] using h
set_option maxRecDepth 65536 in
theorem w_c0 : (Jvm.Cond.code x code maxLocals ret).before args0 about1 = true := code_word (m := ⟨1, 1⟩) (meth := k1m1) (c := k1c1) (by decide +kernel) rfl rfl rfl (by decide +kernel)
set_option maxRecDepth 65536 in
theorem w_c1 : (Jvm.Cond.code ({ cls := "com/example/midpoint/midpoint/digits/PowersOfTenDigitCountPinLaw", name := "pow10", desc := "(I)J" } : Jvm.MethodName) method_3_code (2 : Nat) (Option.some Jvm.ClassFile.FieldType.long)).before args0 about1 = true := code_word (m := ⟨1, 2⟩) (meth := k1m2) (c := k1c2) (by decide +kernel) rfl rfl rfl (by decide +kernel)
set_option maxRecDepth 65536 in
theorem w_c2 : (Jvm.Cond.code ({ cls := "com/example/midpoint/midpoint/digits/PowersOfTen", name := "digitCount", desc := "(J)I" } : Jvm.MethodName) prog_16_method_3_code (4 : Nat) (Option.some Jvm.ClassFile.FieldType.int)).before args0 about1 = true := code_word (m := ⟨2, 1⟩) (meth := k2m1) (c := k2c1) (by decide +kernel) rfl rfl rfl (by decide +kernel)
set_option maxRecDepth 65536 in
theorem w_c3 : (Jvm.Cond.code ({ cls := "java/lang/Long", name := "numberOfLeadingZeros", desc := "(J)I" } : Jvm.MethodName) jdk_35_method_48_code (3 : Nat) (Option.some Jvm.ClassFile.FieldType.int)).before args0 about1 = true := code_word (m := ⟨8, 0⟩) (meth := k8m0) (c := k8c0) (by decide +kernel) rfl rfl rfl (by decide +kernel)
set_option maxRecDepth 65536 in
theorem w_c4 : (Jvm.Cond.code ({ cls := "java/lang/Integer", name := "numberOfLeadingZeros", desc := "(I)I" } : Jvm.MethodName) jdk_33_method_47_code (2 : Nat) (Option.some Jvm.ClassFile.FieldType.int)).before args0 about1 = true := code_word (m := ⟨9, 0⟩) (meth := k9m0) (c := k9c0) (by decide +kernel) rfl rfl rfl (by decide +kernel)
set_option maxRecDepth 65536 in
theorem w_c5 : (Jvm.Cond.code ({ cls := "com/example/midpoint/midpoint/digits/PowersOfTenDigitCountPinLaw", name := "digits", desc := "(J)I" } : Jvm.MethodName) method_4_code (2 : Nat) (Option.some Jvm.ClassFile.FieldType.int)).before args0 about1 = true := code_word (m := ⟨1, 3⟩) (meth := k1m3) (c := k1c3) (by decide +kernel) rfl rfl rfl (by decide +kernel)
def codes1 : List Jvm.Cond := [Jvm.Cond.code x code maxLocals ret, Jvm.Cond.code ({ cls := "com/example/midpoint/midpoint/digits/PowersOfTenDigitCountPinLaw", name := "pow10", desc := "(I)J" } : Jvm.MethodName) method_3_code (2 : Nat) (Option.some Jvm.ClassFile.FieldType.long), Jvm.Cond.code ({ cls := "com/example/midpoint/midpoint/digits/PowersOfTen", name := "digitCount", desc := "(J)I" } : Jvm.MethodName) prog_16_method_3_code (4 : Nat) (Option.some Jvm.ClassFile.FieldType.int), Jvm.Cond.code ({ cls := "java/lang/Long", name := "numberOfLeadingZeros", desc := "(J)I" } : Jvm.MethodName) jdk_35_method_48_code (3 : Nat) (Option.some Jvm.ClassFile.FieldType.int), Jvm.Cond.code ({ cls := "java/lang/Integer", name := "numberOfLeadingZeros", desc := "(I)I" } : Jvm.MethodName) jdk_33_method_47_code (2 : Nat) (Option.some Jvm.ClassFile.FieldType.int), Jvm.Cond.code ({ cls := "com/example/midpoint/midpoint/digits/PowersOfTenDigitCountPinLaw", name := "digits", desc := "(J)I" } : Jvm.MethodName) method_4_code (2 : Nat) (Option.some Jvm.ClassFile.FieldType.int)]
set_option maxRecDepth 65536 in
theorem codes_eq : words1.filter isCode = codes1 := rfl
theorem w_codes : ∀ c ∈ words1.filter isCode, c.before args0 about1 = true := by
  rw [codes_eq]
  intro c hc
  simp only [codes1, List.mem_cons, List.not_mem_nil, or_false] at hc
  rcases hc with rfl | rfl | rfl | rfl | rfl | rfl
  · exact w_c0
  · exact w_c1
  · exact w_c2
  · exact w_c3
  · exact w_c4
  · exact w_c5
set_option maxRecDepth 65536 in
theorem w_t1 : (words1.take 24).all (fun c => isCode c || c.before args0 about1) = true := by decide +kernel
set_option maxRecDepth 65536 in
theorem w_t2 : (words1.drop 24).all (fun c => isCode c || c.before args0 about1) = true := by decide +kernel
theorem w_tables : (allAtoms (Jvm.Cond.code x code maxLocals ret :: tables_1)).before args0 about1 = true := by
  rw [allAtoms_all]
  show words1.all (fun c => c.before args0 about1) = true
  refine all_split ?_ w_codes
  rw [← List.take_append_drop 24 words1, List.all_append, w_t1, w_t2]
  rfl
set_option maxRecDepth 65536 in
theorem w_case : (Jvm.Cond.and given_1 narrow_1).before args0 about1 = true := by decide +kernel
theorem w_applies : (headSpec (Jvm.Cond.code x code maxLocals ret :: tables_1) room_1).applies x e0.platform about1 = true :=
  (Spec.applies_iff w_frames).mpr ⟨w_running, w_runnable, w_alone, w_named, w_hears, w_ripe, w_room, w_tables⟩
theorem atStart : AtStart classFile x code maxLocals ret World_1 tables_1 room_1 Calls_1 rest_1 Pre_1 launch0 p0 e0 about1 theMethod args0 below0 :=
  ⟨lists_1, trivial, launch0.admits_env _ _ _, launch0.least_env, fairChoices_fair.cas, fairChoices_fair.clock, w_frames, w_args, w_heap, w_applies, trivial, trivial, w_case⟩
end start1
theorem witness_1 : WitnessClaimed_1 := ⟨start1.p0, start1.e0, start1.about1, start1.theMethod, start1.args0, start1.below0, start1.atStart⟩
end Jvm.Pilot.@@N@@
