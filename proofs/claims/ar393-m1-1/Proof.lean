import JvmDerived
import JvmDerived.Pilot.@@N@@Statement
import JvmDerived.Pilot.@@N@@Code
set_option linter.unusedVariables false
set_option linter.unusedSimpArgs false
namespace Jvm.RoadKit
open Sem ClassFile Op Lib Jvm.Stand Jvm.Free Jvm.LawKit
section New
variable {p : Program} {l : Launch} {e : Env} {R : Room} {s : State} {m : MethodId} {args : Array Value} {below : List Frame} {meth : Method} {c : Code} {T : State} {locs : List Loc} {cells slots : Nat}
theorem retI (X : Stand p l e R s m args below meth c T locs cells slots) (hx : p.tables.exec = Jvm.exec) {pc : Nat} {Ls : Array Slot} {z : Int32} {rest : List Value} (hret : meth.sig.returnType = some .int) (hd : decode c.code pc = .ok (.ireturn, 1)) {fs : List Frame}
    (hl : ∀ (f : JFrame) (acts : List Action), f.method = m → f.locked = none → f.entered = [] → (doReturn e (T.setTop f) acts (some (.int z))).1 = T.setFrames fs) : Steps p.tables e below (T.setTop (mkF m pc Ls (.int z :: rest))) (T.setFrames fs) := by
  have hm' : T.vm.method? m = some meth := X.method'
  have hn : narrow .int (.int z) = .int z := rfl
  show Steps p.tables e below (T.setTop { method := m, pc := pc, locals := Ls, stack := _ :: rest, locked := none }) _
  jvm_step X.here [X.here.top, hx, hd, hm', hret, hn]
  first | (intro acts; rw [hl _ acts rfl rfl rfl]) | rw [hl _ _ rfl rfl rfl]
  exact Steps.refl _
end New
end Jvm.RoadKit
namespace Jvm.Pilot.@@N@@
open Jvm Jvm.ClassFile Sem Op Lib Jvm.Free Jvm.Stand Jvm.LawKit Jvm.RoadKit Bundle Jvm.Pilot.@@N@@.Jvm.D
theorem own_eqI {args : Array Value} {s : State} {t : Term} {k : Int32} (h : (Jvm.Cond.eq t (.int k)).value args s none s [] = some true) : t.eval args s none [] s = some (.int k) := by
  simp only [Cond.value, Term.eval] at h
  cases ht : t.eval args s none [] s with
  | none => simp [ht] at h
  | some x => cases x <;> simp [ht] at h ⊢; exact h
theorem own_cache {args : Array Value} {s : State} {aC : Addr} {clC : Cell} {C n d : String} (A : Arr s s.heap aC clC (.object "java/lang/Integer")) (vC : (Term.static C n d).eval args s none [] s = some (.ref aC)) (hl : (Jvm.Cond.eq (.length (.static C n d)) (.int 256)).value args s none s [] = some true)
    (hall : (Jvm.Cond.all (.static C n d) (.and (.exactly (.elem (.static C n d) (.index 0)) "java/lang/Integer") (.eq (.field (.elem (.static C n d) (.index 0)) "java/lang/Integer" "value" "I") (.sub (.index 0) (.int 128))))).value args s none s [] = some true) :
    ∀ j : Int32, ¬ (j < (-128 : Int32)) → ¬ ((127 : Int32) < j) → ∃ r : Addr, ¬ (j + (128 : Int32) < 0 ∨ clC.slots.size ≤ (j + (128 : Int32)).toNatClampNeg) ∧ clC.slots[(j + (128 : Int32)).toNatClampNeg]? = some (.ref r) ∧ Exa s s.heap r "java/lang/Integer" ∧ Fld s s.heap r "java/lang/Integer" "value" "I" (.int j) := by
  obtain ⟨q, e⟩ := Jvm.Free.IntBox.length_fwd (Cond.before_iff.mpr hl) vC A.1 A.2.1 A.2.2
  obtain ⟨-, sz, -, B⟩ : Bxs s aC clC "java/lang/Integer" "I" 256 (fun j => .int (j - 128)) := Bxs.start (F := .sub (.index 0) (.int 128)) (fun _ => vC) A q e (by decide) hall (fun X j nn h => eqv_i (by have r := idx_at (args := args) (first := s) (o := none) (s := s) nn; simp only [Term.eval] at r ⊢; rw [r]; rfl) h)
  intro j h1 h2
  have hp := (Jvm.Free.IntBox.place_ok j h1 h2).1
  have sz' : clC.slots.size = 256 := by rw [sz]; rfl
  obtain ⟨b, b1, b2, b3⟩ := B (j + 128) (by rw [sz']; exact hp)
  refine ⟨b, by rw [sz']; exact hp, b1, b2, ?_⟩
  have ej : j + 128 - 128 = j := Int32.add_sub_cancel j 128
  have b4 : Fld s s.heap b "java/lang/Integer" "value" "I" (.int (j + 128 - 128)) := b3
  rw [ej] at b4
  exact b4
theorem own_arv0 {args : Array Value} {s : State} {t : Term} {a : Addr} {cl : Cell} {ty : FieldType} {dv : Value} (hf : Fit s) (A : Arr s s.heap a cl ty) (ht : t.eval args s none [] s = some (.ref a)) (hl : (Jvm.Cond.eq (.length t) (.int 0)).value args s none s [] = some true) :
    Arv s s.heap a cl.cls ty (0 : Int32) [] dv := by
  obtain ⟨q, e⟩ := Jvm.Free.IntBox.length_fwd (Cond.before_iff.mpr hl) ht A.1 A.2.1 A.2.2
  exact Arv.start hf A q e (by decide) (by decide) trivial
theorem own_q (x : Int32) : ¬ ((0 : Int32) < lcmpW ((4 : Int64) * ((x &&& (2147483647 : Int32)) / (4 : Int32)).toInt64) ((x &&& (2147483647 : Int32)).toInt64)) ∧ lcmpW ((x &&& (2147483647 : Int32)).toInt64) (((4 : Int64) * ((x &&& (2147483647 : Int32)) / (4 : Int32)).toInt64) + (4 : Int64)) < (0 : Int32) := by
  have h0 := (c_and x 2147483647 (by decide)).1
  generalize (x &&& (2147483647 : Int32)) = i at h0
  have e4 : (4 : Int32).toInt = 4 := by decide
  have l4 : (4 : Int64).toInt = 4 := by decide
  have hq := (c_idiv i 4 4 e4 (by decide)).1 h0
  generalize i / (4 : Int32) = q at hq
  have r1 := rng32 i
  have r2 := rng32 q
  have m1 := c_lmul (4 : Int64) q.toInt64
  rw [l4, c_i2l] at m1
  have r3 := rng64 ((4 : Int64) * q.toInt64)
  have m2 := c_ladd ((4 : Int64) * q.toInt64) 4
  rw [l4] at m2
  have r4 := rng64 ((4 : Int64) * q.toInt64 + 4)
  have li := c_i2l i
  rw [lw_gt, lw_lt, Int64.lt_iff_toInt_lt, Int64.lt_iff_toInt_lt, li]
  constructor
  · omega
  · omega
theorem pn_java_util_List : plainName "java/util/List" = true := by first | (simp [plainName, overriddenIn]; done) | decide +kernel
theorem ef_2 (m : MethodId)  : entryFrame m #[] 0 = mkF m 0 #[] [] := by first | (simp [entryFrame, mkF, argsToLocals, Value.category]; done) | rfl
theorem d2_0 : decode jdk_40_method_36_code 0 = .ok (.getstatic 90, 3) := by decide +kernel
theorem d2_3 : decode jdk_40_method_36_code 3 = .ok (.areturn, 1) := by decide +kernel
def Q_rm2 (Z : State) (wE : Addr) (h0 : Heap) (n0 : Nat) (v : Option Value) (h : Heap) (L : List Loc) : Prop := v = some (.ref wE) ∧ Fr n0 L ∧ h = h0
set_option maxRecDepth 65536 in
set_option maxHeartbeats 40000000 in
theorem rm2 (l : Launch) (Z : State) (a0 : Array Value) (hw : ∀ d ∈ tables_1, d.before a0 Z = true) (ws : List Jvm.Cond) (wE : Addr) (h0 : Heap) (n0 : Nat) (Z0 : n0 ≤ h0.size) (SE : Sta Z h0 "java/util/ImmutableCollections" "EMPTY_LIST" "Ljava/util/ImmutableCollections$ListN;" (.ref wE)) :
    MetFree l (⟨"java/util/List", "of", "()Ljava/util/List;"⟩ : MethodName) (head1 (Jvm.Cond.code (⟨"java/util/List", "of", "()Ljava/util/List;"⟩ : MethodName) jdk_40_method_36_code 0 (some (.object "java/util/List")) :: ws) ({ frames := 0, cells := 0, slots := 0, locals := 0 } : Room)) (fun a U => a = #[] ∧ Z.Warmed39 U.vm ∧ U.heap = h0) (fun _ _ _ _ _ => True) (fun _ U o U' => ∃ v L, o = .returned v ∧ Q_rm2 Z wE h0 n0 v U'.heap L ∧ FrameEnd U o U' L ({ frames := 0, cells := 0, slots := 0, locals := 0 } : Room).cells ({ frames := 0, cells := 0, slots := 0, locals := 0 } : Room).slots) := by
  refine MetFree.of_bodySF (plainFor_of_name pn_java_util_List) hisR ?_
  intro p e s m args below meth c s₁ Bd hml0 hP hK
  obtain ⟨rfl, hZ, hh⟩ := hP
  have hx := Bd.exec
  have hby := Bd.bytes
  have hml : c.maxLocals = 0 := hml0
  have hown : s.vm.findClass "java/util/List" = some m.cls := findClass_of_methodNamed Bd.named
  have hnm := (name_of_methodNamed Bd.named Bd.method).1
  have X0 : Stand p l e ({ frames := 0, cells := 0, slots := 0, locals := 0 } : Room) s m #[] below meth c s₁ [] 0 0 := Stand.of_body Bd
  have e0 : s₁.heap = h0 := by rw [← hh, Bd.state]; rfl
  have N0 := Fr.nil n0
  have pre0 : ∀ t, Steps p.tables e below (s₁.setTop (mkF m 0 #[] [])) t → Steps p.tables e below (s₁.setTop (entryFrame m #[] 0)) t := fun t k => castTop (ef_2 m ) k
  obtain ⟨S0, hS0⟩ : ∃ S, S = s₁.setTop (entryFrame m #[] 0) := ⟨_, rfl⟩
  rw [← hS0] at pre0 ⊢
  obtain ⟨T1, X1, e1, st1⟩ := getS2 X0 hx hZ hown (host := "") (Or.inl (hw _ (List.mem_of_getElem? (i := 9) rfl))) Via.refl e0 SE (g := (mkF m 0 #[] [])) rfl (hb hby d2_0)
  obtain ⟨fs, hr, hrun, hended, hW, hsame⟩ := X1.leave (v := some (.ref wE)) (fun h => by rw [Bd.returns] at h; cases h)
  refine ⟨_, _, pre0 _ ?_, hrun, hended, _, _, rfl, ?_, ⟨_, rfl⟩, hW, hsame.mono (by decide) (by decide)⟩
  · show Steps p.tables e below (s₁.setTop (mkF m 0 #[] [])) _
    refine st1 _ ?_
    show Steps p.tables e below (T1.setTop (mkF m 3 #[] [(.ref wE)])) _
    jvm_step X1.here [X1.here.top, hx, (hb hby d2_3), X1.method', Bd.returns, Value.isRef, FieldType.isReference]
    first | (intro acts; rw [hr _ acts rfl rfl rfl]) | rw [hr _ _ rfl rfl rfl]
    exact Steps.refl _
  · show Q_rm2 Z wE h0 n0 _ T1.heap _
    rw [e1]
    exact ⟨rfl, N0, rfl⟩
theorem pn_java_util_ImmutableCollections_ListN : plainName "java/util/ImmutableCollections$ListN" = true := by first | (simp [plainName, overriddenIn]; done) | decide +kernel
theorem ef_3 (m : MethodId) (x0 : Addr) : entryFrame m #[(.ref x0)] 1 = mkF m 0 #[.val (.ref x0)] [] := by first | (simp [entryFrame, mkF, argsToLocals, Value.category]; done) | rfl
theorem d3_0 : decode jdk_45_method_3_code 0 = .ok (.aload_n 0, 1) := by decide +kernel
theorem d3_1 : decode jdk_45_method_3_code 1 = .ok (.getfield 7, 3) := by decide +kernel
theorem d3_4 : decode jdk_45_method_3_code 4 = .ok (.arraylength, 1) := by decide +kernel
theorem d3_5 : decode jdk_45_method_3_code 5 = .ok (.ireturn, 1) := by decide +kernel
def Q_rm3 (Z : State) (a1 : Addr) (aA : Addr) (kA : ClassId) (h0 : Heap) (n0 : Nat) (v : Option Value) (h : Heap) (L : List Loc) : Prop := v = some (.int 0) ∧ Fr n0 L ∧ h = h0
set_option maxRecDepth 65536 in
set_option maxHeartbeats 40000000 in
theorem rm3 (l : Launch) (Z : State) (a0 : Array Value) (hw : ∀ d ∈ tables_1, d.before a0 Z = true) (ws : List Jvm.Cond) (a1 : Addr) (aA : Addr) (kA : ClassId) (h0 : Heap) (n0 : Nat) (Z0 : n0 ≤ h0.size) (F : Fld Z h0 a1 "java/util/ImmutableCollections$ListN" "elements" "[Ljava/lang/Object;" (.ref aA)) (VA : Arv Z h0 aA kA (.object "java/lang/Object") (0 : Int32) [] .null) :
    MetFree l (⟨"java/util/ImmutableCollections$ListN", "size", "()I"⟩ : MethodName) (head1 (Jvm.Cond.code (⟨"java/util/ImmutableCollections$ListN", "size", "()I"⟩ : MethodName) jdk_45_method_3_code 1 (some .int) :: ws) ({ frames := 0, cells := 0, slots := 0, locals := 0 } : Room)) (fun a U => a = #[(.ref a1)] ∧ Z.Warmed39 U.vm ∧ U.heap = h0) (fun _ _ _ _ _ => True) (fun _ U o U' => ∃ v L, o = .returned v ∧ Q_rm3 Z a1 aA kA h0 n0 v U'.heap L ∧ FrameEnd U o U' L ({ frames := 0, cells := 0, slots := 0, locals := 0 } : Room).cells ({ frames := 0, cells := 0, slots := 0, locals := 0 } : Room).slots) := by
  refine MetFree.of_bodySF (plainFor_of_name pn_java_util_ImmutableCollections_ListN) hisR ?_
  intro p e s m args below meth c s₁ Bd hml0 hP hK
  obtain ⟨rfl, hZ, hh⟩ := hP
  have hx := Bd.exec
  have hby := Bd.bytes
  have hml : c.maxLocals = 1 := hml0
  have hown : s.vm.findClass "java/util/ImmutableCollections$ListN" = some m.cls := findClass_of_methodNamed Bd.named
  have hnm := (name_of_methodNamed Bd.named Bd.method).1
  have X0 : Stand p l e ({ frames := 0, cells := 0, slots := 0, locals := 0 } : Room) s m #[(.ref a1)] below meth c s₁ [] 0 0 := Stand.of_body Bd
  have e0 : s₁.heap = h0 := by rw [← hh, Bd.state]; rfl
  have N0 := Fr.nil n0
  have pre0 : ∀ t, Steps p.tables e below (s₁.setTop (mkF m 0 #[.val (.ref a1)] [])) t → Steps p.tables e below (s₁.setTop (entryFrame m #[(.ref a1)] 1)) t := fun t k => castTop (ef_3 m a1) k
  obtain ⟨S0, hS0⟩ : ∃ S, S = s₁.setTop (entryFrame m #[(.ref a1)] 1) := ⟨_, rfl⟩
  rw [← hS0] at pre0 ⊢
  obtain ⟨T1, X1, e1, st1⟩ := getF X0 hx hZ hown (host := "") (Or.inl (hw _ (List.mem_of_getElem? (i := 21) rfl))) Via.refl e0 F (g := (mkF m 1 #[.val (.ref a1)] [(.ref a1)])) rfl rfl (hb hby d3_1)
  obtain ⟨cl2, Arcl2, -, Scl2, Ncl2, -, -⟩ := VA
  obtain ⟨fs, hr, hrun, hended, hW, hsame⟩ := X1.leave (v := some (.int (0 : Int32))) (fun h => by rw [Bd.returns] at h; cases h)
  refine ⟨_, _, pre0 _ ?_, hrun, hended, _, _, rfl, ?_, ⟨_, rfl⟩, hW, hsame.mono (by decide) (by decide)⟩
  · show Steps p.tables e below (s₁.setTop (mkF m 0 #[.val (.ref a1)] [])) _
    refine XS.aloadN X0.here hx rfl (hb hby d3_0) rfl rfl ?_
    show Steps p.tables e below (s₁.setTop (mkF m 1 #[.val (.ref a1)] [(.ref a1)])) _
    refine st1 _ ?_
    show Steps p.tables e below (T1.setTop (mkF m 4 #[.val (.ref a1)] [(.ref aA)])) _
    refine X1.arraylength hx (by rw [e1]; exact Arcl2.1) (State.isArrayOf_alike hZ.alike Arcl2.2.1) (g := (mkF m 4 #[.val (.ref a1)] [(.ref aA)])) rfl rfl (hb hby d3_4) _ ?_
    rw [len_of Scl2 Ncl2]
    show Steps p.tables e below (T1.setTop (mkF m 5 #[.val (.ref a1)] [(.int (0 : Int32))])) _
    exact retI X1 hx Bd.returns (hb hby d3_5) hr
  · show Q_rm3 Z a1 aA kA h0 n0 _ T1.heap _
    rw [e1]
    exact ⟨rfl, N0, rfl⟩
theorem pn_java_lang_Number : plainName "java/lang/Number" = true := by first | (simp [plainName, overriddenIn]; done) | decide +kernel
theorem ef_16 (m : MethodId) (x0 : Addr) : entryFrame m #[(.ref x0)] 1 = mkF m 0 #[.val (.ref x0)] [] := by first | (simp [entryFrame, mkF, argsToLocals, Value.category]; done) | rfl
theorem d16_0 : decode jdk_18_method_1_code 0 = .ok (.aload_n 0, 1) := by decide +kernel
theorem d16_1 : decode jdk_18_method_1_code 1 = .ok (.invokespecial 1, 3) := by decide +kernel
theorem d16_4 : decode jdk_18_method_1_code 4 = .ok (.return_, 1) := by decide +kernel
def Q_rmNum (Z : State) (a1 : Addr) (h0 : Heap) (n0 : Nat) (v : Option Value) (h : Heap) (L : List Loc) : Prop := v = none ∧ Fr n0 L ∧ h = h0
set_option maxRecDepth 65536 in
set_option maxHeartbeats 40000000 in
theorem rmNum (l : Launch) (Z : State) (a0 : Array Value) (hw : ∀ d ∈ tables_1, d.before a0 Z = true) (ws : List Jvm.Cond) (a1 : Addr) (h0 : Heap) (n0 : Nat) (Z0 : n0 ≤ h0.size)  :
    MetFree l (⟨"java/lang/Number", "<init>", "()V"⟩ : MethodName) (head1 (Jvm.Cond.code (⟨"java/lang/Number", "<init>", "()V"⟩ : MethodName) jdk_18_method_1_code 1 none :: ws) ({ frames := 1, cells := 0, slots := 0, locals := 12 } : Room)) (fun a U => a = #[(.ref a1)] ∧ Z.Warmed39 U.vm ∧ U.heap = h0) (fun _ _ _ _ _ => True) (fun _ U o U' => ∃ v L, o = .returned v ∧ Q_rmNum Z a1 h0 n0 v U'.heap L ∧ FrameEnd U o U' L ({ frames := 1, cells := 0, slots := 0, locals := 12 } : Room).cells ({ frames := 1, cells := 0, slots := 0, locals := 12 } : Room).slots) := by
  refine MetFree.of_bodySF (plainFor_of_name pn_java_lang_Number) hisR ?_
  intro p e s m args below meth c s₁ Bd hml0 hP hK
  obtain ⟨rfl, hZ, hh⟩ := hP
  have hx := Bd.exec
  have hby := Bd.bytes
  have hml : c.maxLocals = 1 := hml0
  have hown : s.vm.findClass "java/lang/Number" = some m.cls := findClass_of_methodNamed Bd.named
  have hnm := (name_of_methodNamed Bd.named Bd.method).1
  have X0 : Stand p l e ({ frames := 1, cells := 0, slots := 0, locals := 12 } : Room) s m #[(.ref a1)] below meth c s₁ [] 0 0 := Stand.of_body Bd
  have e0 : s₁.heap = h0 := by rw [← hh, Bd.state]; rfl
  have N0 := Fr.nil n0
  have pre0 : ∀ t, Steps p.tables e below (s₁.setTop (mkF m 0 #[.val (.ref a1)] [])) t → Steps p.tables e below (s₁.setTop (entryFrame m #[(.ref a1)] 1)) t := fun t k => castTop (ef_16 m a1) k
  obtain ⟨S0, hS0⟩ : ∃ S, S = s₁.setTop (entryFrame m #[(.ref a1)] 1) := ⟨_, rfl⟩
  rw [← hS0] at pre0 ⊢
  obtain ⟨T1, X1, e1, st1⟩ := initO X0 hx hZ hown (hw _ (List.mem_of_getElem? (i := 105) rfl)) (hw _ (List.mem_of_getElem? (i := 59) rfl)) (hw _ (List.mem_of_getElem? (i := 60) rfl)) e0 (g := (mkF m 1 #[.val (.ref a1)] [(.ref a1)])) rfl (by rw [hml]; rfl) rfl (hb hby d16_1) (by decide) (W := 0) (by show 2 * 0 + _ ≤ _; exact Nat.le_of_eq rfl) (by decide)
  obtain ⟨fs, hr, hrun, hended, hW, hsame⟩ := X1.leave (v := none) (fun _ => rfl)
  refine ⟨_, _, pre0 _ ?_, hrun, hended, _, _, rfl, ?_, ⟨_, rfl⟩, hW, hsame.mono (by decide) (by decide)⟩
  · show Steps p.tables e below (s₁.setTop (mkF m 0 #[.val (.ref a1)] [])) _
    refine XS.aloadN X0.here hx rfl (hb hby d16_0) rfl rfl ?_
    show Steps p.tables e below (s₁.setTop (mkF m 1 #[.val (.ref a1)] [(.ref a1)])) _
    refine st1 _ ?_
    show Steps p.tables e below (T1.setTop (mkF m 4 #[.val (.ref a1)] [])) _
    exact X1.returnOut hx Bd.returns (hb hby d16_4) hr
  · show Q_rmNum Z a1 h0 n0 _ T1.heap _
    rw [e1]
    exact ⟨rfl, N0, rfl⟩
theorem pn_java_lang_Integer : plainName "java/lang/Integer" = true := by first | (simp [plainName, overriddenIn]; done) | decide +kernel
theorem ef_15 (m : MethodId) (x0 : Addr) (x1 : Int32) : entryFrame m #[(.ref x0), (.int x1)] 2 = mkF m 0 #[.val (.ref x0), .val (.int x1)] [] := by first | (simp [entryFrame, mkF, argsToLocals, Value.category]; done) | rfl
theorem d15_0 : decode jdk_33_method_23_code 0 = .ok (.aload_n 0, 1) := by decide +kernel
theorem d15_1 : decode jdk_33_method_23_code 1 = .ok (.invokespecial 202, 3) := by decide +kernel
theorem pd_0 : parseMethodDescriptor "()V" = some ⟨[], none⟩ := by decide +kernel
theorem d15_4 : decode jdk_33_method_23_code 4 = .ok (.aload_n 0, 1) := by decide +kernel
theorem d15_5 : decode jdk_33_method_23_code 5 = .ok (.iload_n 1, 1) := by decide +kernel
theorem d15_6 : decode jdk_33_method_23_code 6 = .ok (.putfield 205, 3) := by decide +kernel
theorem d15_9 : decode jdk_33_method_23_code 9 = .ok (.return_, 1) := by decide +kernel
def Q_rmInt (Z : State) (a1 : Addr) (p2 : Int32) (h0 : Heap) (n0 : Nat) (v : Option Value) (h : Heap) (L : List Loc) : Prop := v = none ∧ Fr n0 L ∧ Keep h0 h [a1] ∧ Exa Z h a1 "java/lang/Integer" ∧ Fld Z h a1 "java/lang/Integer" "value" "I" (.int p2)
set_option maxRecDepth 65536 in
set_option maxHeartbeats 40000000 in
theorem rmInt (l : Launch) (Z : State) (a0 : Array Value) (hw : ∀ d ∈ tables_1, d.before a0 Z = true) (ws : List Jvm.Cond) (a1 : Addr) (p2 : Int32) (h0 : Heap) (n0 : Nat) (Z0 : n0 ≤ h0.size) (E : Exa Z h0 a1 "java/lang/Integer") (ga : n0 ≤ a1) (F : Fld Z h0 a1 "java/lang/Integer" "value" "I" (.int (0 : Int32))) :
    MetFree l (⟨"java/lang/Integer", "<init>", "(I)V"⟩ : MethodName) (head1 (Jvm.Cond.code (⟨"java/lang/Integer", "<init>", "(I)V"⟩ : MethodName) jdk_33_method_23_code 2 none :: ws) ({ frames := 2, cells := 0, slots := 0, locals := 24 } : Room)) (fun a U => a = #[(.ref a1), (.int p2)] ∧ Z.Warmed39 U.vm ∧ U.heap = h0) (fun _ _ _ _ _ => True) (fun _ U o U' => ∃ v L, o = .returned v ∧ Q_rmInt Z a1 p2 h0 n0 v U'.heap L ∧ FrameEnd U o U' L ({ frames := 2, cells := 0, slots := 0, locals := 24 } : Room).cells ({ frames := 2, cells := 0, slots := 0, locals := 24 } : Room).slots) := by
  refine MetFree.of_bodySF (plainFor_of_name pn_java_lang_Integer) hisR ?_
  intro p e s m args below meth c s₁ Bd hml0 hP hK
  obtain ⟨rfl, hZ, hh⟩ := hP
  have hx := Bd.exec
  have hby := Bd.bytes
  have hml : c.maxLocals = 2 := hml0
  have hown : s.vm.findClass "java/lang/Integer" = some m.cls := findClass_of_methodNamed Bd.named
  have hnm := (name_of_methodNamed Bd.named Bd.method).1
  have X0 : Stand p l e ({ frames := 2, cells := 0, slots := 0, locals := 24 } : Room) s m #[(.ref a1), (.int p2)] below meth c s₁ [] 0 0 := Stand.of_body Bd
  have e0 : s₁.heap = h0 := by rw [← hh, Bd.state]; rfl
  have N0 := Fr.nil n0
  have pre0 : ∀ t, Steps p.tables e below (s₁.setTop (mkF m 0 #[.val (.ref a1), .val (.int p2)] [])) t → Steps p.tables e below (s₁.setTop (entryFrame m #[(.ref a1), (.int p2)] 2)) t := fun t k => castTop (ef_15 m a1 p2) k
  obtain ⟨S0, hS0⟩ : ∃ S, S = s₁.setTop (entryFrame m #[(.ref a1), (.int p2)] 2) := ⟨_, rfl⟩
  rw [← hS0] at pre0 ⊢
  obtain ⟨_, _, ⟨T1, L1, k1, n1⟩, -, X1, ⟨Lc1, hQ1, l1, y1, z1⟩, st1⟩ := X0.specialBack hx (y := (⟨"java/lang/Number", "<init>", "()V"⟩ : MethodName)) rfl hown (mvT hZ (hw _ (List.mem_of_getElem? (i := 99) rfl))) (mvT hZ (hw _ (List.mem_of_getElem? (i := 100) rfl))) (mvT hZ (hw _ (List.mem_of_getElem? (i := 104) rfl))) (by decide) (backOf (W := 0) (rmNum l Z a0 hw [] a1 h0 n0 (Nat.le_trans Z0 (Keep.refl h0 [a1]).1)) hZ (hw _ (List.mem_of_getElem? (i := 104) rfl)) (hw _ (List.mem_of_getElem? (i := 103) rfl)) (by decide) (by decide)) (g := (mkF m 1 #[.val (.ref a1), .val (.int p2)] [(.ref a1)])) rfl (by rw [hml]; rfl) (Steps.refl _) (a := a1) (argsL := []) (rest := []) (lenOf pd_0 rfl) rfl (by show 2 * 0 + _ ≤ _; exact Nat.le_of_eq rfl) (hb hby d15_1) (fun _ _ => ⟨rfl, e0, (by decide : 0 + 0 ≤ _), (by decide : 0 + 0 ≤ _)⟩)
  dsimp only [Pt.U, Pt.locs, Pt.cells, Pt.slots] at X1 l1 y1 z1 st1 hQ1
  subst l1 y1 z1
  obtain ⟨rfl, N1q, eq1⟩ := hQ1
  have N1 := Fr.app N0 N1q
  have e1 : T1.heap = h0 := eq1
  obtain ⟨T2, h2, X2, e2, W2, st2⟩ := putF X1 hx hZ hown (host := "") (Or.inl (hw _ (List.mem_of_getElem? (i := 91) rfl))) Via.refl e1 F E (Or.inr ⟨(hw _ (List.mem_of_getElem? (i := 92) rfl)), rfl, hnm⟩) (hw _ (List.mem_of_getElem? (i := 95) rfl)) (ty := .int) (by decide) rfl rfl (g := (mkF m 6 #[.val (.ref a1), .val (.int p2)] [(.int p2), (.ref a1)])) rfl rfl (hb hby d15_6)
  have Fw2 := F.same W2
  have N2 := Fr.snoc X2 N1 ga
  have K3 : Keep h0 h2 [a1] := (Keep.refl h0 [a1]).wr W2 (Or.inl (List.mem_of_getElem? (i := 0) rfl))
  have f_4 := (E.wr W2)
  obtain ⟨fs, hr, hrun, hended, hW, hsame⟩ := X2.leave (v := none) (fun _ => rfl)
  refine ⟨_, _, pre0 _ ?_, hrun, hended, _, _, rfl, ?_, ⟨_, rfl⟩, hW, hsame.mono (by decide) (by decide)⟩
  · show Steps p.tables e below (s₁.setTop (mkF m 0 #[.val (.ref a1), .val (.int p2)] [])) _
    refine XS.aloadN X0.here hx rfl (hb hby d15_0) rfl rfl ?_
    show Steps p.tables e below (s₁.setTop (mkF m 1 #[.val (.ref a1), .val (.int p2)] [(.ref a1)])) _
    refine st1.trans ?_
    show Steps p.tables e below (T1.setTop (mkF m 4 #[.val (.ref a1), .val (.int p2)] [])) _
    refine XS.aloadN X1.here hx rfl (hb hby d15_4) rfl rfl ?_
    show Steps p.tables e below (T1.setTop (mkF m 5 #[.val (.ref a1), .val (.int p2)] [(.ref a1)])) _
    refine XS.iloadN X1.here hx rfl (hb hby d15_5) rfl ?_
    show Steps p.tables e below (T1.setTop (mkF m 6 #[.val (.ref a1), .val (.int p2)] [(.int p2), (.ref a1)])) _
    refine st2 _ ?_
    show Steps p.tables e below (T2.setTop (mkF m 9 #[.val (.ref a1), .val (.int p2)] [])) _
    exact X2.returnOut hx Bd.returns (hb hby d15_9) hr
  · show Q_rmInt Z a1 p2 h0 n0 _ T2.heap _
    rw [e2]
    exact ⟨rfl, N2, K3, f_4, Fw2⟩
theorem ef_4 (m : MethodId) (x0 : Int32) : entryFrame m #[(.int x0)] 1 = mkF m 0 #[.val (.int x0)] [] := by first | (simp [entryFrame, mkF, argsToLocals, Value.category]; done) | rfl
theorem d4_0 : decode jdk_33_method_22_code 0 = .ok (.iload_n 0, 1) := by decide +kernel
theorem d4_1 : decode jdk_33_method_22_code 1 = .ok (.bipush (-128), 2) := by decide +kernel
theorem d4_3 : decode jdk_33_method_22_code 3 = .ok (.if_icmp .lt 20, 3) := by decide +kernel
theorem d4_23 : decode jdk_33_method_22_code 23 = .ok (.new 1, 3) := by decide +kernel
theorem d4_26 : decode jdk_33_method_22_code 26 = .ok (.dup, 1) := by decide +kernel
theorem d4_27 : decode jdk_33_method_22_code 27 = .ok (.iload_n 0, 1) := by decide +kernel
theorem d4_28 : decode jdk_33_method_22_code 28 = .ok (.invokespecial 199, 3) := by decide +kernel
theorem pd_1 : parseMethodDescriptor "(I)V" = some ⟨[.int], none⟩ := by decide +kernel
theorem d4_31 : decode jdk_33_method_22_code 31 = .ok (.areturn, 1) := by decide +kernel
theorem d4_6 : decode jdk_33_method_22_code 6 = .ok (.iload_n 0, 1) := by decide +kernel
theorem d4_7 : decode jdk_33_method_22_code 7 = .ok (.getstatic 191, 3) := by decide +kernel
theorem d4_10 : decode jdk_33_method_22_code 10 = .ok (.if_icmp .gt 13, 3) := by decide +kernel
theorem d4_13 : decode jdk_33_method_22_code 13 = .ok (.getstatic 195, 3) := by decide +kernel
theorem d4_16 : decode jdk_33_method_22_code 16 = .ok (.iload_n 0, 1) := by decide +kernel
theorem d4_17 : decode jdk_33_method_22_code 17 = .ok (.sipush 128, 3) := by decide +kernel
theorem d4_20 : decode jdk_33_method_22_code 20 = .ok (.iadd, 1) := by decide +kernel
theorem d4_21 : decode jdk_33_method_22_code 21 = .ok (.aaload, 1) := by decide +kernel
theorem d4_22 : decode jdk_33_method_22_code 22 = .ok (.areturn, 1) := by decide +kernel
def Q_rmVal (Z : State) (p1 : Int32) (aC : Addr) (clC : Cell) (h0 : Heap) (n0 : Nat) (v : Option Value) (h : Heap) (L : List Loc) : Prop := ∃ r : Addr, v = some (.ref r) ∧ Fr n0 L ∧ Keep h0 h [] ∧ Exa Z h r "java/lang/Integer" ∧ Fld Z h r "java/lang/Integer" "value" "I" (.int p1)
set_option maxRecDepth 65536 in
set_option maxHeartbeats 40000000 in
theorem rmVal (l : Launch) (Z : State) (a0 : Array Value) (hw : ∀ d ∈ tables_1, d.before a0 Z = true) (ws : List Jvm.Cond) (p1 : Int32) (aC : Addr) (clC : Cell) (h0 : Heap) (n0 : Nat) (Z0 : n0 ≤ h0.size) (O0 : Old Z n0 h0) (SH : Sta Z Z.heap "java/lang/Integer$IntegerCache" "high" "I" (.int (127 : Int32))) (SCa : Sta Z Z.heap "java/lang/Integer$IntegerCache" "cache" "[Ljava/lang/Integer;" (.ref aC)) (ArC : Arr Z Z.heap aC clC (.object "java/lang/Integer")) (hCA : ∀ j : Int32, ¬ (j < (-128 : Int32)) → ¬ ((127 : Int32) < j) → ∃ r : Addr, ¬ (j + (128 : Int32) < 0 ∨ clC.slots.size ≤ (j + (128 : Int32)).toNatClampNeg) ∧ clC.slots[(j + (128 : Int32)).toNatClampNeg]? = some (.ref r) ∧ Exa Z Z.heap r "java/lang/Integer" ∧ Fld Z Z.heap r "java/lang/Integer" "value" "I" (.int j)) :
    MetFree l (⟨"java/lang/Integer", "valueOf", "(I)Ljava/lang/Integer;"⟩ : MethodName) (head1 (Jvm.Cond.code (⟨"java/lang/Integer", "valueOf", "(I)Ljava/lang/Integer;"⟩ : MethodName) jdk_33_method_22_code 1 (some (.object "java/lang/Integer")) :: ws) ({ frames := 3, cells := 1, slots := 1, locals := 38 } : Room)) (fun a U => a = #[(.int p1)] ∧ Z.Warmed39 U.vm ∧ U.heap = h0) (fun _ _ _ _ _ => True) (fun _ U o U' => ∃ v L, o = .returned v ∧ Q_rmVal Z p1 aC clC h0 n0 v U'.heap L ∧ FrameEnd U o U' L ({ frames := 3, cells := 1, slots := 1, locals := 38 } : Room).cells ({ frames := 3, cells := 1, slots := 1, locals := 38 } : Room).slots) := by
  refine MetFree.of_bodySF (plainFor_of_name pn_java_lang_Integer) hisR ?_
  intro p e s m args below meth c s₁ Bd hml0 hP hK
  obtain ⟨rfl, hZ, hh⟩ := hP
  have hx := Bd.exec
  have hby := Bd.bytes
  have hml : c.maxLocals = 1 := hml0
  have hown : s.vm.findClass "java/lang/Integer" = some m.cls := findClass_of_methodNamed Bd.named
  have hnm := (name_of_methodNamed Bd.named Bd.method).1
  have X0 : Stand p l e ({ frames := 3, cells := 1, slots := 1, locals := 38 } : Room) s m #[(.int p1)] below meth c s₁ [] 0 0 := Stand.of_body Bd
  have e0 : s₁.heap = h0 := by rw [← hh, Bd.state]; rfl
  have N0 := Fr.nil n0
  have pre0 : ∀ t, Steps p.tables e below (s₁.setTop (mkF m 0 #[.val (.int p1)] [])) t → Steps p.tables e below (s₁.setTop (entryFrame m #[(.int p1)] 1)) t := fun t k => castTop (ef_4 m p1) k
  obtain ⟨S0, hS0⟩ : ∃ S, S = s₁.setTop (entryFrame m #[(.int p1)] 1) := ⟨_, rfl⟩
  rw [← hS0] at pre0 ⊢
  have pre1 : ∀ t, Steps p.tables e below (s₁.setTop (mkF m 3 #[.val (.int p1)] [(.int (-128 : Int32)), (.int p1)])) t → Steps p.tables e below S0 t := by
    intro t k
    refine pre0 t ?_
    show Steps p.tables e below (s₁.setTop (mkF m 0 #[.val (.int p1)] [])) _
    refine XS.iloadN X0.here hx rfl (hb hby d4_0) rfl ?_
    show Steps p.tables e below (s₁.setTop (mkF m 1 #[.val (.int p1)] [(.int p1)])) _
    refine XS.bipush X0.here hx rfl (hb hby d4_1) ?_
    exact k
  by_cases h1 : p1 < (-128 : Int32)
  · obtain ⟨T2, h2, X2, e2, E2, A2, D2, -, st2⟩ := newO X0 hx hZ hown (hw _ (List.mem_of_getElem? (i := 94) rfl)) (hw _ (List.mem_of_getElem? (i := 95) rfl)) (hw _ (List.mem_of_getElem? (i := 25) rfl)) e0 (g := (mkF m 23 #[.val (.int p1)] [])) rfl (hb hby d4_23) (by decide) (by decide)
    obtain ⟨b2, g2⟩ : ∃ z, z = h0.size := ⟨_, rfl⟩
    rw [← g2] at A2 D2 st2
    have gn_b2 : n0 ≤ b2 := Nat.le_trans (Nat.le_trans Z0 (Keep.refl h0 []).1) (Nat.le_of_eq g2.symm)
    have sz_b2 : h0.size ≤ b2 := Nat.le_trans (Keep.refl h0 []).1 (Nat.le_of_eq g2.symm)
    have K3 : Keep h0 h2 [] := (Keep.refl h0 []).ext E2
    have lt_b2 : b2 < h2.size := A2.lt
    have F_value_b2 : Fld Z h2 b2 "java/lang/Integer" "value" "I" (.int (0 : Int32)) := D2 (Or.inr (hw _ (List.mem_of_getElem? (i := 92) rfl))) (ty := .int) (by decide)
    obtain ⟨_, _, ⟨T4, L4, k4, n4⟩, -, X4, ⟨Lc4, hQ4, l4, y4, z4⟩, st4⟩ := X2.specialBack hx (y := (⟨"java/lang/Integer", "<init>", "(I)V"⟩ : MethodName)) rfl hown (mvT hZ (hw _ (List.mem_of_getElem? (i := 96) rfl))) (mvT hZ (hw _ (List.mem_of_getElem? (i := 97) rfl))) (mvT hZ (hw _ (List.mem_of_getElem? (i := 98) rfl))) (by decide) (backOf (W := 1) (rmInt l Z a0 hw [] b2 p1 h2 n0 (Nat.le_trans Z0 K3.1) A2 gn_b2 F_value_b2) hZ (hw _ (List.mem_of_getElem? (i := 98) rfl)) (hw _ (List.mem_of_getElem? (i := 25) rfl)) (by decide) (by decide)) (g := (mkF m 28 #[.val (.int p1)] [(.int p1), (.ref b2), (.ref b2)])) rfl (by rw [hml]; rfl) (Steps.refl _) (a := b2) (argsL := [(.int p1)]) (rest := [(.ref b2)]) (lenOf pd_1 rfl) rfl (by show 2 * 0 + _ ≤ _; exact Nat.le_of_eq rfl) (hb hby d4_28) (fun _ _ => ⟨rfl, e2, (by decide : 1 + 0 ≤ _), (by decide : 1 + 0 ≤ _)⟩)
    dsimp only [Pt.U, Pt.locs, Pt.cells, Pt.slots] at X4 l4 y4 z4 st4 hQ4
    subst l4 y4 z4
    obtain ⟨rfl, N4q, K4, Eq4, Fq4⟩ := hQ4
    have N4 := Fr.app N0 N4q
    have K5 : Keep h0 T4.heap [] := K3.trans K4 (allS (Or.inr sz_b2) all0)
    obtain ⟨fs, hr, hrun, hended, hW, hsame⟩ := X4.leave (v := some (.ref b2)) (fun h => by rw [Bd.returns] at h; cases h)
    refine ⟨_, _, pre1 _ ?_, hrun, hended, _, _, rfl, ?_, ⟨_, rfl⟩, hW, hsame.mono (by decide) (by decide)⟩
    · show Steps p.tables e below (s₁.setTop (mkF m 3 #[.val (.int p1)] [(.int (-128 : Int32)), (.int p1)])) _
      refine XS.icmpYes X0.here hx rfl (pc0 := 3) (pc' := 23) rfl (hb hby d4_3) rfl (tlt h1).1 (by decide) (by decide) ?_
      show Steps p.tables e below (s₁.setTop (mkF m 23 #[.val (.int p1)] [])) _
      refine st2 _ ?_
      show Steps p.tables e below (T2.setTop (mkF m 26 #[.val (.int p1)] [(.ref b2)])) _
      refine XS.dup X2.here hx rfl (hb hby d4_26) rfl rfl ?_
      show Steps p.tables e below (T2.setTop (mkF m 27 #[.val (.int p1)] [(.ref b2), (.ref b2)])) _
      refine XS.iloadN X2.here hx rfl (hb hby d4_27) rfl ?_
      show Steps p.tables e below (T2.setTop (mkF m 28 #[.val (.int p1)] [(.int p1), (.ref b2), (.ref b2)])) _
      refine st4.trans ?_
      show Steps p.tables e below (T4.setTop (mkF m 31 #[.val (.int p1)] [(.ref b2)])) _
      jvm_step X4.here [X4.here.top, hx, (hb hby d4_31), X4.method', Bd.returns, Value.isRef, FieldType.isReference]
      first | (intro acts; rw [hr _ acts rfl rfl rfl]) | rw [hr _ _ rfl rfl rfl]
      exact Steps.refl _
    · show Q_rmVal Z p1 aC clC h0 n0 _ T4.heap _
      exact ⟨b2, rfl, N4, K5, Eq4, Fq4⟩
  · by_cases h2 : (127 : Int32) < p1
    · obtain ⟨T6, X6, e6, st6⟩ := getS2 X0 hx hZ hown (host := "") (Or.inl (hw _ (List.mem_of_getElem? (i := 27) rfl))) Via.refl e0 (SH.ext O0.2) (g := (mkF m 7 #[.val (.int p1)] [(.int p1)])) rfl (hb hby d4_7)
      obtain ⟨T7, h7, X7, e7, E7, A7, D7, -, st7⟩ := newO X6 hx hZ hown (hw _ (List.mem_of_getElem? (i := 94) rfl)) (hw _ (List.mem_of_getElem? (i := 95) rfl)) (hw _ (List.mem_of_getElem? (i := 25) rfl)) e6 (g := (mkF m 23 #[.val (.int p1)] [])) rfl (hb hby d4_23) (by decide) (by decide)
      obtain ⟨b7, g7⟩ : ∃ z, z = h0.size := ⟨_, rfl⟩
      rw [← g7] at A7 D7 st7
      have gn_b7 : n0 ≤ b7 := Nat.le_trans (Nat.le_trans Z0 (Keep.refl h0 []).1) (Nat.le_of_eq g7.symm)
      have sz_b7 : h0.size ≤ b7 := Nat.le_trans (Keep.refl h0 []).1 (Nat.le_of_eq g7.symm)
      have K8 : Keep h0 h7 [] := (Keep.refl h0 []).ext E7
      have lt_b7 : b7 < h7.size := A7.lt
      have F_value_b7 : Fld Z h7 b7 "java/lang/Integer" "value" "I" (.int (0 : Int32)) := D7 (Or.inr (hw _ (List.mem_of_getElem? (i := 92) rfl))) (ty := .int) (by decide)
      obtain ⟨_, _, ⟨T9, L9, k9, n9⟩, -, X9, ⟨Lc9, hQ9, l9, y9, z9⟩, st9⟩ := X7.specialBack hx (y := (⟨"java/lang/Integer", "<init>", "(I)V"⟩ : MethodName)) rfl hown (mvT hZ (hw _ (List.mem_of_getElem? (i := 96) rfl))) (mvT hZ (hw _ (List.mem_of_getElem? (i := 97) rfl))) (mvT hZ (hw _ (List.mem_of_getElem? (i := 98) rfl))) (by decide) (backOf (W := 1) (rmInt l Z a0 hw [] b7 p1 h7 n0 (Nat.le_trans Z0 K8.1) A7 gn_b7 F_value_b7) hZ (hw _ (List.mem_of_getElem? (i := 98) rfl)) (hw _ (List.mem_of_getElem? (i := 25) rfl)) (by decide) (by decide)) (g := (mkF m 28 #[.val (.int p1)] [(.int p1), (.ref b7), (.ref b7)])) rfl (by rw [hml]; rfl) (Steps.refl _) (a := b7) (argsL := [(.int p1)]) (rest := [(.ref b7)]) (lenOf pd_1 rfl) rfl (by show 2 * 0 + _ ≤ _; exact Nat.le_of_eq rfl) (hb hby d4_28) (fun _ _ => ⟨rfl, e7, (by decide : 1 + 0 ≤ _), (by decide : 1 + 0 ≤ _)⟩)
      dsimp only [Pt.U, Pt.locs, Pt.cells, Pt.slots] at X9 l9 y9 z9 st9 hQ9
      subst l9 y9 z9
      obtain ⟨rfl, N9q, K9, Eq9, Fq9⟩ := hQ9
      have N9 := Fr.app N0 N9q
      have K10 : Keep h0 T9.heap [] := K8.trans K9 (allS (Or.inr sz_b7) all0)
      obtain ⟨fs, hr, hrun, hended, hW, hsame⟩ := X9.leave (v := some (.ref b7)) (fun h => by rw [Bd.returns] at h; cases h)
      refine ⟨_, _, pre1 _ ?_, hrun, hended, _, _, rfl, ?_, ⟨_, rfl⟩, hW, hsame.mono (by decide) (by decide)⟩
      · show Steps p.tables e below (s₁.setTop (mkF m 3 #[.val (.int p1)] [(.int (-128 : Int32)), (.int p1)])) _
        refine XS.icmpNo X0.here hx rfl (hb hby d4_3) rfl (flt h1).1 ?_
        show Steps p.tables e below (s₁.setTop (mkF m 6 #[.val (.int p1)] [])) _
        refine XS.iloadN X0.here hx rfl (hb hby d4_6) rfl ?_
        show Steps p.tables e below (s₁.setTop (mkF m 7 #[.val (.int p1)] [(.int p1)])) _
        refine st6 _ ?_
        show Steps p.tables e below (T6.setTop (mkF m 10 #[.val (.int p1)] [(.int (127 : Int32)), (.int p1)])) _
        refine XS.icmpYes X6.here hx rfl (pc0 := 10) (pc' := 23) rfl (hb hby d4_10) rfl (tlt h2).2.2.1 (by decide) (by decide) ?_
        show Steps p.tables e below (T6.setTop (mkF m 23 #[.val (.int p1)] [])) _
        refine st7 _ ?_
        show Steps p.tables e below (T7.setTop (mkF m 26 #[.val (.int p1)] [(.ref b7)])) _
        refine XS.dup X7.here hx rfl (hb hby d4_26) rfl rfl ?_
        show Steps p.tables e below (T7.setTop (mkF m 27 #[.val (.int p1)] [(.ref b7), (.ref b7)])) _
        refine XS.iloadN X7.here hx rfl (hb hby d4_27) rfl ?_
        show Steps p.tables e below (T7.setTop (mkF m 28 #[.val (.int p1)] [(.int p1), (.ref b7), (.ref b7)])) _
        refine st9.trans ?_
        show Steps p.tables e below (T9.setTop (mkF m 31 #[.val (.int p1)] [(.ref b7)])) _
        jvm_step X9.here [X9.here.top, hx, (hb hby d4_31), X9.method', Bd.returns, Value.isRef, FieldType.isReference]
        first | (intro acts; rw [hr _ acts rfl rfl rfl]) | rw [hr _ _ rfl rfl rfl]
        exact Steps.refl _
      · show Q_rmVal Z p1 aC clC h0 n0 _ T9.heap _
        exact ⟨b7, rfl, N9, K10, Eq9, Fq9⟩
    · obtain ⟨r, hin, hat, Er, Fr1⟩ := hCA p1 h1 h2
      obtain ⟨T11, X11, e11, st11⟩ := getS2 X0 hx hZ hown (host := "") (Or.inl (hw _ (List.mem_of_getElem? (i := 27) rfl))) Via.refl e0 (SH.ext O0.2) (g := (mkF m 7 #[.val (.int p1)] [(.int p1)])) rfl (hb hby d4_7)
      obtain ⟨T12, X12, e12, st12⟩ := getS2 X11 hx hZ hown (host := "") (Or.inl (hw _ (List.mem_of_getElem? (i := 29) rfl))) Via.refl e11 (SCa.ext O0.2) (g := (mkF m 13 #[.val (.int p1)] [])) rfl (hb hby d4_13)
      obtain ⟨fs, hr, hrun, hended, hW, hsame⟩ := X12.leave (v := some (.ref r)) (fun h => by rw [Bd.returns] at h; cases h)
      refine ⟨_, _, pre1 _ ?_, hrun, hended, _, _, rfl, ?_, ⟨_, rfl⟩, hW, hsame.mono (by decide) (by decide)⟩
      · show Steps p.tables e below (s₁.setTop (mkF m 3 #[.val (.int p1)] [(.int (-128 : Int32)), (.int p1)])) _
        refine XS.icmpNo X0.here hx rfl (hb hby d4_3) rfl (flt h1).1 ?_
        show Steps p.tables e below (s₁.setTop (mkF m 6 #[.val (.int p1)] [])) _
        refine XS.iloadN X0.here hx rfl (hb hby d4_6) rfl ?_
        show Steps p.tables e below (s₁.setTop (mkF m 7 #[.val (.int p1)] [(.int p1)])) _
        refine st11 _ ?_
        show Steps p.tables e below (T11.setTop (mkF m 10 #[.val (.int p1)] [(.int (127 : Int32)), (.int p1)])) _
        refine XS.icmpNo X11.here hx rfl (hb hby d4_10) rfl (flt h2).2.2.1 ?_
        show Steps p.tables e below (T11.setTop (mkF m 13 #[.val (.int p1)] [])) _
        refine st12 _ ?_
        show Steps p.tables e below (T12.setTop (mkF m 16 #[.val (.int p1)] [(.ref aC)])) _
        refine XS.iloadN X12.here hx rfl (hb hby d4_16) rfl ?_
        show Steps p.tables e below (T12.setTop (mkF m 17 #[.val (.int p1)] [(.int p1), (.ref aC)])) _
        refine XS.sipush X12.here hx rfl (hb hby d4_17) ?_
        show Steps p.tables e below (T12.setTop (mkF m 20 #[.val (.int p1)] [(.int (128 : Int32)), (.int p1), (.ref aC)])) _
        refine XS.iadd X12.here hx rfl (hb hby d4_20) rfl ?_
        show Steps p.tables e below (T12.setTop (mkF m 21 #[.val (.int p1)] [(.int (p1 + (128 : Int32))), (.ref aC)])) _
        refine X12.aaload hx (j := (p1 + (128 : Int32))) (v := (.ref r)) (by rw [e12]; exact (ArC.ext O0.2).1) (State.isArrayOf_alike hZ.alike (ArC.ext O0.2).2.1) rfl (ArC.ext O0.2).2.2 hin hat (g := (mkF m 21 #[.val (.int p1)] [(.int (p1 + (128 : Int32))), (.ref aC)])) rfl rfl (hb hby d4_21) _ ?_
        show Steps p.tables e below (T12.setTop (mkF m 22 #[.val (.int p1)] [(.ref r)])) _
        jvm_step X12.here [X12.here.top, hx, (hb hby d4_22), X12.method', Bd.returns, Value.isRef, FieldType.isReference]
        first | (intro acts; rw [hr _ acts rfl rfl rfl]) | rw [hr _ _ rfl rfl rfl]
        exact Steps.refl _
      · show Q_rmVal Z p1 aC clC h0 n0 _ T12.heap _
        rw [e12]
        exact ⟨r, rfl, N0, (Keep.refl h0 []), (Er.ext O0.2), (Fr1.ext O0.2)⟩
theorem pn_java_util_AbstractCollection : plainName "java/util/AbstractCollection" = true := by first | (simp [plainName, overriddenIn]; done) | decide +kernel
theorem ef_9 (m : MethodId) (x0 : Addr) : entryFrame m #[(.ref x0)] 1 = mkF m 0 #[.val (.ref x0)] [] := by first | (simp [entryFrame, mkF, argsToLocals, Value.category]; done) | rfl
theorem d9_0 : decode jdk_22_method_1_code 0 = .ok (.aload_n 0, 1) := by decide +kernel
theorem d9_1 : decode jdk_22_method_1_code 1 = .ok (.invokespecial 1, 3) := by decide +kernel
theorem d9_4 : decode jdk_22_method_1_code 4 = .ok (.return_, 1) := by decide +kernel
def Q_rm9 (Z : State) (a1 : Addr) (h0 : Heap) (n0 : Nat) (v : Option Value) (h : Heap) (L : List Loc) : Prop := v = none ∧ Fr n0 L ∧ h = h0
set_option maxRecDepth 65536 in
set_option maxHeartbeats 40000000 in
theorem rm9 (l : Launch) (Z : State) (a0 : Array Value) (hw : ∀ d ∈ tables_1, d.before a0 Z = true) (ws : List Jvm.Cond) (a1 : Addr) (h0 : Heap) (n0 : Nat) (Z0 : n0 ≤ h0.size)  :
    MetFree l (⟨"java/util/AbstractCollection", "<init>", "()V"⟩ : MethodName) (head1 (Jvm.Cond.code (⟨"java/util/AbstractCollection", "<init>", "()V"⟩ : MethodName) jdk_22_method_1_code 1 none :: ws) ({ frames := 1, cells := 0, slots := 0, locals := 12 } : Room)) (fun a U => a = #[(.ref a1)] ∧ Z.Warmed39 U.vm ∧ U.heap = h0) (fun _ _ _ _ _ => True) (fun _ U o U' => ∃ v L, o = .returned v ∧ Q_rm9 Z a1 h0 n0 v U'.heap L ∧ FrameEnd U o U' L ({ frames := 1, cells := 0, slots := 0, locals := 12 } : Room).cells ({ frames := 1, cells := 0, slots := 0, locals := 12 } : Room).slots) := by
  refine MetFree.of_bodySF (plainFor_of_name pn_java_util_AbstractCollection) hisR ?_
  intro p e s m args below meth c s₁ Bd hml0 hP hK
  obtain ⟨rfl, hZ, hh⟩ := hP
  have hx := Bd.exec
  have hby := Bd.bytes
  have hml : c.maxLocals = 1 := hml0
  have hown : s.vm.findClass "java/util/AbstractCollection" = some m.cls := findClass_of_methodNamed Bd.named
  have hnm := (name_of_methodNamed Bd.named Bd.method).1
  have X0 : Stand p l e ({ frames := 1, cells := 0, slots := 0, locals := 12 } : Room) s m #[(.ref a1)] below meth c s₁ [] 0 0 := Stand.of_body Bd
  have e0 : s₁.heap = h0 := by rw [← hh, Bd.state]; rfl
  have N0 := Fr.nil n0
  have pre0 : ∀ t, Steps p.tables e below (s₁.setTop (mkF m 0 #[.val (.ref a1)] [])) t → Steps p.tables e below (s₁.setTop (entryFrame m #[(.ref a1)] 1)) t := fun t k => castTop (ef_9 m a1) k
  obtain ⟨S0, hS0⟩ : ∃ S, S = s₁.setTop (entryFrame m #[(.ref a1)] 1) := ⟨_, rfl⟩
  rw [← hS0] at pre0 ⊢
  obtain ⟨T1, X1, e1, st1⟩ := initO X0 hx hZ hown (hw _ (List.mem_of_getElem? (i := 58) rfl)) (hw _ (List.mem_of_getElem? (i := 59) rfl)) (hw _ (List.mem_of_getElem? (i := 60) rfl)) e0 (g := (mkF m 1 #[.val (.ref a1)] [(.ref a1)])) rfl (by rw [hml]; rfl) rfl (hb hby d9_1) (by decide) (W := 0) (by show 2 * 0 + _ ≤ _; exact Nat.le_of_eq rfl) (by decide)
  obtain ⟨fs, hr, hrun, hended, hW, hsame⟩ := X1.leave (v := none) (fun _ => rfl)
  refine ⟨_, _, pre0 _ ?_, hrun, hended, _, _, rfl, ?_, ⟨_, rfl⟩, hW, hsame.mono (by decide) (by decide)⟩
  · show Steps p.tables e below (s₁.setTop (mkF m 0 #[.val (.ref a1)] [])) _
    refine XS.aloadN X0.here hx rfl (hb hby d9_0) rfl rfl ?_
    show Steps p.tables e below (s₁.setTop (mkF m 1 #[.val (.ref a1)] [(.ref a1)])) _
    refine st1 _ ?_
    show Steps p.tables e below (T1.setTop (mkF m 4 #[.val (.ref a1)] [])) _
    exact X1.returnOut hx Bd.returns (hb hby d9_4) hr
  · show Q_rm9 Z a1 h0 n0 _ T1.heap _
    rw [e1]
    exact ⟨rfl, N0, rfl⟩
theorem pn_java_util_ImmutableCollections_AbstractImmutableCollection : plainName "java/util/ImmutableCollections$AbstractImmutableCollection" = true := by first | (simp [plainName, overriddenIn]; done) | decide +kernel
theorem ef_8 (m : MethodId) (x0 : Addr) : entryFrame m #[(.ref x0)] 1 = mkF m 0 #[.val (.ref x0)] [] := by first | (simp [entryFrame, mkF, argsToLocals, Value.category]; done) | rfl
theorem d8_0 : decode jdk_47_method_1_code 0 = .ok (.aload_n 0, 1) := by decide +kernel
theorem d8_1 : decode jdk_47_method_1_code 1 = .ok (.invokespecial 1, 3) := by decide +kernel
theorem d8_4 : decode jdk_47_method_1_code 4 = .ok (.return_, 1) := by decide +kernel
def Q_rm8 (Z : State) (a1 : Addr) (h0 : Heap) (n0 : Nat) (v : Option Value) (h : Heap) (L : List Loc) : Prop := v = none ∧ Fr n0 L ∧ h = h0
set_option maxRecDepth 65536 in
set_option maxHeartbeats 40000000 in
theorem rm8 (l : Launch) (Z : State) (a0 : Array Value) (hw : ∀ d ∈ tables_1, d.before a0 Z = true) (ws : List Jvm.Cond) (a1 : Addr) (h0 : Heap) (n0 : Nat) (Z0 : n0 ≤ h0.size)  :
    MetFree l (⟨"java/util/ImmutableCollections$AbstractImmutableCollection", "<init>", "()V"⟩ : MethodName) (head1 (Jvm.Cond.code (⟨"java/util/ImmutableCollections$AbstractImmutableCollection", "<init>", "()V"⟩ : MethodName) jdk_47_method_1_code 1 none :: ws) ({ frames := 2, cells := 0, slots := 0, locals := 24 } : Room)) (fun a U => a = #[(.ref a1)] ∧ Z.Warmed39 U.vm ∧ U.heap = h0) (fun _ _ _ _ _ => True) (fun _ U o U' => ∃ v L, o = .returned v ∧ Q_rm8 Z a1 h0 n0 v U'.heap L ∧ FrameEnd U o U' L ({ frames := 2, cells := 0, slots := 0, locals := 24 } : Room).cells ({ frames := 2, cells := 0, slots := 0, locals := 24 } : Room).slots) := by
  refine MetFree.of_bodySF (plainFor_of_name pn_java_util_ImmutableCollections_AbstractImmutableCollection) hisR ?_
  intro p e s m args below meth c s₁ Bd hml0 hP hK
  obtain ⟨rfl, hZ, hh⟩ := hP
  have hx := Bd.exec
  have hby := Bd.bytes
  have hml : c.maxLocals = 1 := hml0
  have hown : s.vm.findClass "java/util/ImmutableCollections$AbstractImmutableCollection" = some m.cls := findClass_of_methodNamed Bd.named
  have hnm := (name_of_methodNamed Bd.named Bd.method).1
  have X0 : Stand p l e ({ frames := 2, cells := 0, slots := 0, locals := 24 } : Room) s m #[(.ref a1)] below meth c s₁ [] 0 0 := Stand.of_body Bd
  have e0 : s₁.heap = h0 := by rw [← hh, Bd.state]; rfl
  have N0 := Fr.nil n0
  have pre0 : ∀ t, Steps p.tables e below (s₁.setTop (mkF m 0 #[.val (.ref a1)] [])) t → Steps p.tables e below (s₁.setTop (entryFrame m #[(.ref a1)] 1)) t := fun t k => castTop (ef_8 m a1) k
  obtain ⟨S0, hS0⟩ : ∃ S, S = s₁.setTop (entryFrame m #[(.ref a1)] 1) := ⟨_, rfl⟩
  rw [← hS0] at pre0 ⊢
  obtain ⟨_, _, ⟨T1, L1, k1, n1⟩, -, X1, ⟨Lc1, hQ1, l1, y1, z1⟩, st1⟩ := X0.specialBack hx (y := (⟨"java/util/AbstractCollection", "<init>", "()V"⟩ : MethodName)) rfl hown (mvT hZ (hw _ (List.mem_of_getElem? (i := 52) rfl))) (mvT hZ (hw _ (List.mem_of_getElem? (i := 53) rfl))) (mvT hZ (hw _ (List.mem_of_getElem? (i := 57) rfl))) (by decide) (backOf (W := 0) (rm9 l Z a0 hw [] a1 h0 n0 (Nat.le_trans Z0 (Keep.refl h0 []).1)) hZ (hw _ (List.mem_of_getElem? (i := 57) rfl)) (hw _ (List.mem_of_getElem? (i := 56) rfl)) (by decide) (by decide)) (g := (mkF m 1 #[.val (.ref a1)] [(.ref a1)])) rfl (by rw [hml]; rfl) (Steps.refl _) (a := a1) (argsL := []) (rest := []) (lenOf pd_0 rfl) rfl (by show 2 * 0 + _ ≤ _; exact Nat.le_of_eq rfl) (hb hby d8_1) (fun _ _ => ⟨rfl, e0, (by decide : 0 + 0 ≤ _), (by decide : 0 + 0 ≤ _)⟩)
  dsimp only [Pt.U, Pt.locs, Pt.cells, Pt.slots] at X1 l1 y1 z1 st1 hQ1
  subst l1 y1 z1
  obtain ⟨rfl, N1q, eq1⟩ := hQ1
  have N1 := Fr.app N0 N1q
  have e1 : T1.heap = h0 := eq1
  obtain ⟨fs, hr, hrun, hended, hW, hsame⟩ := X1.leave (v := none) (fun _ => rfl)
  refine ⟨_, _, pre0 _ ?_, hrun, hended, _, _, rfl, ?_, ⟨_, rfl⟩, hW, hsame.mono (by decide) (by decide)⟩
  · show Steps p.tables e below (s₁.setTop (mkF m 0 #[.val (.ref a1)] [])) _
    refine XS.aloadN X0.here hx rfl (hb hby d8_0) rfl rfl ?_
    show Steps p.tables e below (s₁.setTop (mkF m 1 #[.val (.ref a1)] [(.ref a1)])) _
    refine st1.trans ?_
    show Steps p.tables e below (T1.setTop (mkF m 4 #[.val (.ref a1)] [])) _
    exact X1.returnOut hx Bd.returns (hb hby d8_4) hr
  · show Q_rm8 Z a1 h0 n0 _ T1.heap _
    rw [e1]
    exact ⟨rfl, N1, rfl⟩
theorem pn_java_util_ImmutableCollections_AbstractImmutableList : plainName "java/util/ImmutableCollections$AbstractImmutableList" = true := by first | (simp [plainName, overriddenIn]; done) | decide +kernel
theorem ef_7 (m : MethodId) (x0 : Addr) : entryFrame m #[(.ref x0)] 1 = mkF m 0 #[.val (.ref x0)] [] := by first | (simp [entryFrame, mkF, argsToLocals, Value.category]; done) | rfl
theorem d7_0 : decode jdk_46_method_1_code 0 = .ok (.aload_n 0, 1) := by decide +kernel
theorem d7_1 : decode jdk_46_method_1_code 1 = .ok (.invokespecial 1, 3) := by decide +kernel
theorem d7_4 : decode jdk_46_method_1_code 4 = .ok (.return_, 1) := by decide +kernel
def Q_rm7 (Z : State) (a1 : Addr) (h0 : Heap) (n0 : Nat) (v : Option Value) (h : Heap) (L : List Loc) : Prop := v = none ∧ Fr n0 L ∧ h = h0
set_option maxRecDepth 65536 in
set_option maxHeartbeats 40000000 in
theorem rm7 (l : Launch) (Z : State) (a0 : Array Value) (hw : ∀ d ∈ tables_1, d.before a0 Z = true) (ws : List Jvm.Cond) (a1 : Addr) (h0 : Heap) (n0 : Nat) (Z0 : n0 ≤ h0.size)  :
    MetFree l (⟨"java/util/ImmutableCollections$AbstractImmutableList", "<init>", "()V"⟩ : MethodName) (head1 (Jvm.Cond.code (⟨"java/util/ImmutableCollections$AbstractImmutableList", "<init>", "()V"⟩ : MethodName) jdk_46_method_1_code 1 none :: ws) ({ frames := 3, cells := 0, slots := 0, locals := 36 } : Room)) (fun a U => a = #[(.ref a1)] ∧ Z.Warmed39 U.vm ∧ U.heap = h0) (fun _ _ _ _ _ => True) (fun _ U o U' => ∃ v L, o = .returned v ∧ Q_rm7 Z a1 h0 n0 v U'.heap L ∧ FrameEnd U o U' L ({ frames := 3, cells := 0, slots := 0, locals := 36 } : Room).cells ({ frames := 3, cells := 0, slots := 0, locals := 36 } : Room).slots) := by
  refine MetFree.of_bodySF (plainFor_of_name pn_java_util_ImmutableCollections_AbstractImmutableList) hisR ?_
  intro p e s m args below meth c s₁ Bd hml0 hP hK
  obtain ⟨rfl, hZ, hh⟩ := hP
  have hx := Bd.exec
  have hby := Bd.bytes
  have hml : c.maxLocals = 1 := hml0
  have hown : s.vm.findClass "java/util/ImmutableCollections$AbstractImmutableList" = some m.cls := findClass_of_methodNamed Bd.named
  have hnm := (name_of_methodNamed Bd.named Bd.method).1
  have X0 : Stand p l e ({ frames := 3, cells := 0, slots := 0, locals := 36 } : Room) s m #[(.ref a1)] below meth c s₁ [] 0 0 := Stand.of_body Bd
  have e0 : s₁.heap = h0 := by rw [← hh, Bd.state]; rfl
  have N0 := Fr.nil n0
  have pre0 : ∀ t, Steps p.tables e below (s₁.setTop (mkF m 0 #[.val (.ref a1)] [])) t → Steps p.tables e below (s₁.setTop (entryFrame m #[(.ref a1)] 1)) t := fun t k => castTop (ef_7 m a1) k
  obtain ⟨S0, hS0⟩ : ∃ S, S = s₁.setTop (entryFrame m #[(.ref a1)] 1) := ⟨_, rfl⟩
  rw [← hS0] at pre0 ⊢
  obtain ⟨_, _, ⟨T1, L1, k1, n1⟩, -, X1, ⟨Lc1, hQ1, l1, y1, z1⟩, st1⟩ := X0.specialBack hx (y := (⟨"java/util/ImmutableCollections$AbstractImmutableCollection", "<init>", "()V"⟩ : MethodName)) rfl hown (mvT hZ (hw _ (List.mem_of_getElem? (i := 46) rfl))) (mvT hZ (hw _ (List.mem_of_getElem? (i := 47) rfl))) (mvT hZ (hw _ (List.mem_of_getElem? (i := 51) rfl))) (by decide) (backOf (W := 0) (rm8 l Z a0 hw [] a1 h0 n0 (Nat.le_trans Z0 (Keep.refl h0 []).1)) hZ (hw _ (List.mem_of_getElem? (i := 51) rfl)) (hw _ (List.mem_of_getElem? (i := 50) rfl)) (by decide) (by decide)) (g := (mkF m 1 #[.val (.ref a1)] [(.ref a1)])) rfl (by rw [hml]; rfl) (Steps.refl _) (a := a1) (argsL := []) (rest := []) (lenOf pd_0 rfl) rfl (by show 2 * 0 + _ ≤ _; exact Nat.le_of_eq rfl) (hb hby d7_1) (fun _ _ => ⟨rfl, e0, (by decide : 0 + 0 ≤ _), (by decide : 0 + 0 ≤ _)⟩)
  dsimp only [Pt.U, Pt.locs, Pt.cells, Pt.slots] at X1 l1 y1 z1 st1 hQ1
  subst l1 y1 z1
  obtain ⟨rfl, N1q, eq1⟩ := hQ1
  have N1 := Fr.app N0 N1q
  have e1 : T1.heap = h0 := eq1
  obtain ⟨fs, hr, hrun, hended, hW, hsame⟩ := X1.leave (v := none) (fun _ => rfl)
  refine ⟨_, _, pre0 _ ?_, hrun, hended, _, _, rfl, ?_, ⟨_, rfl⟩, hW, hsame.mono (by decide) (by decide)⟩
  · show Steps p.tables e below (s₁.setTop (mkF m 0 #[.val (.ref a1)] [])) _
    refine XS.aloadN X0.here hx rfl (hb hby d7_0) rfl rfl ?_
    show Steps p.tables e below (s₁.setTop (mkF m 1 #[.val (.ref a1)] [(.ref a1)])) _
    refine st1.trans ?_
    show Steps p.tables e below (T1.setTop (mkF m 4 #[.val (.ref a1)] [])) _
    exact X1.returnOut hx Bd.returns (hb hby d7_4) hr
  · show Q_rm7 Z a1 h0 n0 _ T1.heap _
    rw [e1]
    exact ⟨rfl, N1, rfl⟩
theorem pn_java_util_Objects : plainName "java/util/Objects" = true := by first | (simp [plainName, overriddenIn]; done) | decide +kernel
theorem ef_11 (m : MethodId) (x0 : Addr) : entryFrame m #[(.ref x0)] 1 = mkF m 0 #[.val (.ref x0)] [] := by first | (simp [entryFrame, mkF, argsToLocals, Value.category]; done) | rfl
theorem d11_0 : decode jdk_31_method_10_code 0 = .ok (.aload_n 0, 1) := by decide +kernel
theorem d11_1 : decode jdk_31_method_10_code 1 = .ok (.ifnonnull 11, 3) := by decide +kernel
theorem d11_12 : decode jdk_31_method_10_code 12 = .ok (.aload_n 0, 1) := by decide +kernel
theorem d11_13 : decode jdk_31_method_10_code 13 = .ok (.areturn, 1) := by decide +kernel
def Q_rm11 (Z : State) (a1 : Addr) (h0 : Heap) (n0 : Nat) (v : Option Value) (h : Heap) (L : List Loc) : Prop := v = some (.ref a1) ∧ Fr n0 L ∧ h = h0
set_option maxRecDepth 65536 in
set_option maxHeartbeats 40000000 in
theorem rm11 (l : Launch) (Z : State) (a0 : Array Value) (hw : ∀ d ∈ tables_1, d.before a0 Z = true) (ws : List Jvm.Cond) (a1 : Addr) (h0 : Heap) (n0 : Nat) (Z0 : n0 ≤ h0.size)  :
    MetFree l (⟨"java/util/Objects", "requireNonNull", "(Ljava/lang/Object;)Ljava/lang/Object;"⟩ : MethodName) (head1 (Jvm.Cond.code (⟨"java/util/Objects", "requireNonNull", "(Ljava/lang/Object;)Ljava/lang/Object;"⟩ : MethodName) jdk_31_method_10_code 1 (some (.object "java/lang/Object")) :: ws) ({ frames := 0, cells := 0, slots := 0, locals := 0 } : Room)) (fun a U => a = #[(.ref a1)] ∧ Z.Warmed39 U.vm ∧ U.heap = h0) (fun _ _ _ _ _ => True) (fun _ U o U' => ∃ v L, o = .returned v ∧ Q_rm11 Z a1 h0 n0 v U'.heap L ∧ FrameEnd U o U' L ({ frames := 0, cells := 0, slots := 0, locals := 0 } : Room).cells ({ frames := 0, cells := 0, slots := 0, locals := 0 } : Room).slots) := by
  refine MetFree.of_bodySF (plainFor_of_name pn_java_util_Objects) hisR ?_
  intro p e s m args below meth c s₁ Bd hml0 hP hK
  obtain ⟨rfl, hZ, hh⟩ := hP
  have hx := Bd.exec
  have hby := Bd.bytes
  have hml : c.maxLocals = 1 := hml0
  have hown : s.vm.findClass "java/util/Objects" = some m.cls := findClass_of_methodNamed Bd.named
  have hnm := (name_of_methodNamed Bd.named Bd.method).1
  have X0 : Stand p l e ({ frames := 0, cells := 0, slots := 0, locals := 0 } : Room) s m #[(.ref a1)] below meth c s₁ [] 0 0 := Stand.of_body Bd
  have e0 : s₁.heap = h0 := by rw [← hh, Bd.state]; rfl
  have N0 := Fr.nil n0
  have pre0 : ∀ t, Steps p.tables e below (s₁.setTop (mkF m 0 #[.val (.ref a1)] [])) t → Steps p.tables e below (s₁.setTop (entryFrame m #[(.ref a1)] 1)) t := fun t k => castTop (ef_11 m a1) k
  obtain ⟨S0, hS0⟩ : ∃ S, S = s₁.setTop (entryFrame m #[(.ref a1)] 1) := ⟨_, rfl⟩
  rw [← hS0] at pre0 ⊢
  obtain ⟨fs, hr, hrun, hended, hW, hsame⟩ := X0.leave (v := some (.ref a1)) (fun h => by rw [Bd.returns] at h; cases h)
  refine ⟨_, _, pre0 _ ?_, hrun, hended, _, _, rfl, ?_, ⟨_, rfl⟩, hW, hsame.mono (by decide) (by decide)⟩
  · show Steps p.tables e below (s₁.setTop (mkF m 0 #[.val (.ref a1)] [])) _
    refine XS.aloadN X0.here hx rfl (hb hby d11_0) rfl rfl ?_
    show Steps p.tables e below (s₁.setTop (mkF m 1 #[.val (.ref a1)] [(.ref a1)])) _
    refine XS.ifnonnullYes X0.here hx rfl (pc0 := 1) (pc' := 12) rfl (hb hby d11_1) rfl (by decide) (by decide) ?_
    show Steps p.tables e below (s₁.setTop (mkF m 12 #[.val (.ref a1)] [])) _
    refine XS.aloadN X0.here hx rfl (hb hby d11_12) rfl rfl ?_
    show Steps p.tables e below (s₁.setTop (mkF m 13 #[.val (.ref a1)] [(.ref a1)])) _
    jvm_step X0.here [X0.here.top, hx, (hb hby d11_13), X0.method', Bd.returns, Value.isRef, FieldType.isReference]
    first | (intro acts; rw [hr _ acts rfl rfl rfl]) | rw [hr _ _ rfl rfl rfl]
    exact Steps.refl _
  · show Q_rm11 Z a1 h0 n0 _ s₁.heap _
    rw [e0]
    exact ⟨rfl, N0, rfl⟩
theorem pn_java_util_ImmutableCollections_List12 : plainName "java/util/ImmutableCollections$List12" = true := by first | (simp [plainName, overriddenIn]; done) | decide +kernel
theorem ef_6 (m : MethodId) (x0 : Addr) (x1 : Addr) : entryFrame m #[(.ref x0), (.ref x1)] 2 = mkF m 0 #[.val (.ref x0), .val (.ref x1)] [] := by first | (simp [entryFrame, mkF, argsToLocals, Value.category]; done) | rfl
theorem d6_0 : decode jdk_44_method_1_code 0 = .ok (.aload_n 0, 1) := by decide +kernel
theorem d6_1 : decode jdk_44_method_1_code 1 = .ok (.invokespecial 1, 3) := by decide +kernel
theorem d6_4 : decode jdk_44_method_1_code 4 = .ok (.aload_n 0, 1) := by decide +kernel
theorem d6_5 : decode jdk_44_method_1_code 5 = .ok (.aload_n 1, 1) := by decide +kernel
theorem d6_6 : decode jdk_44_method_1_code 6 = .ok (.invokestatic 7, 3) := by decide +kernel
theorem pd_2 : parseMethodDescriptor "(Ljava/lang/Object;)Ljava/lang/Object;" = some ⟨[(.object "java/lang/Object")], some (.object "java/lang/Object")⟩ := by decide +kernel
theorem d6_9 : decode jdk_44_method_1_code 9 = .ok (.putfield 13, 3) := by decide +kernel
theorem d6_12 : decode jdk_44_method_1_code 12 = .ok (.aload_n 0, 1) := by decide +kernel
theorem d6_13 : decode jdk_44_method_1_code 13 = .ok (.getstatic 19, 3) := by decide +kernel
theorem d6_16 : decode jdk_44_method_1_code 16 = .ok (.putfield 24, 3) := by decide +kernel
theorem d6_19 : decode jdk_44_method_1_code 19 = .ok (.return_, 1) := by decide +kernel
def Q_rm6 (Z : State) (a1 : Addr) (a2 : Addr) (wM : Addr) (h0 : Heap) (n0 : Nat) (v : Option Value) (h : Heap) (L : List Loc) : Prop := v = none ∧ Fr n0 L ∧ Keep h0 h [a1] ∧ Exa Z h a1 "java/util/ImmutableCollections$List12" ∧ Fld Z h a1 "java/util/ImmutableCollections$List12" "e0" "Ljava/lang/Object;" (.ref a2) ∧ Fld Z h a1 "java/util/ImmutableCollections$List12" "e1" "Ljava/lang/Object;" (.ref wM)
set_option maxRecDepth 65536 in
set_option maxHeartbeats 40000000 in
theorem rm6 (l : Launch) (Z : State) (a0 : Array Value) (hw : ∀ d ∈ tables_1, d.before a0 Z = true) (ws : List Jvm.Cond) (a1 : Addr) (a2 : Addr) (wM : Addr) (h0 : Heap) (n0 : Nat) (Z0 : n0 ≤ h0.size) (E : Exa Z h0 a1 "java/util/ImmutableCollections$List12") (ga : n0 ≤ a1) (O0 : Old Z n0 h0) (SM : Sta Z Z.heap "java/util/ImmutableCollections" "EMPTY" "Ljava/lang/Object;" (.ref wM)) (F0 : Fld Z h0 a1 "java/util/ImmutableCollections$List12" "e0" "Ljava/lang/Object;" .null) (F1 : Fld Z h0 a1 "java/util/ImmutableCollections$List12" "e1" "Ljava/lang/Object;" .null) :
    MetFree l (⟨"java/util/ImmutableCollections$List12", "<init>", "(Ljava/lang/Object;)V"⟩ : MethodName) (head1 (Jvm.Cond.code (⟨"java/util/ImmutableCollections$List12", "<init>", "(Ljava/lang/Object;)V"⟩ : MethodName) jdk_44_method_1_code 2 none :: ws) ({ frames := 4, cells := 0, slots := 0, locals := 48 } : Room)) (fun a U => a = #[(.ref a1), (.ref a2)] ∧ Z.Warmed39 U.vm ∧ U.heap = h0) (fun _ _ _ _ _ => True) (fun _ U o U' => ∃ v L, o = .returned v ∧ Q_rm6 Z a1 a2 wM h0 n0 v U'.heap L ∧ FrameEnd U o U' L ({ frames := 4, cells := 0, slots := 0, locals := 48 } : Room).cells ({ frames := 4, cells := 0, slots := 0, locals := 48 } : Room).slots) := by
  refine MetFree.of_bodySF (plainFor_of_name pn_java_util_ImmutableCollections_List12) hisR ?_
  intro p e s m args below meth c s₁ Bd hml0 hP hK
  obtain ⟨rfl, hZ, hh⟩ := hP
  have hx := Bd.exec
  have hby := Bd.bytes
  have hml : c.maxLocals = 2 := hml0
  have hown : s.vm.findClass "java/util/ImmutableCollections$List12" = some m.cls := findClass_of_methodNamed Bd.named
  have hnm := (name_of_methodNamed Bd.named Bd.method).1
  have X0 : Stand p l e ({ frames := 4, cells := 0, slots := 0, locals := 48 } : Room) s m #[(.ref a1), (.ref a2)] below meth c s₁ [] 0 0 := Stand.of_body Bd
  have e0 : s₁.heap = h0 := by rw [← hh, Bd.state]; rfl
  have N0 := Fr.nil n0
  have pre0 : ∀ t, Steps p.tables e below (s₁.setTop (mkF m 0 #[.val (.ref a1), .val (.ref a2)] [])) t → Steps p.tables e below (s₁.setTop (entryFrame m #[(.ref a1), (.ref a2)] 2)) t := fun t k => castTop (ef_6 m a1 a2) k
  obtain ⟨S0, hS0⟩ : ∃ S, S = s₁.setTop (entryFrame m #[(.ref a1), (.ref a2)] 2) := ⟨_, rfl⟩
  rw [← hS0] at pre0 ⊢
  obtain ⟨_, _, ⟨T1, L1, k1, n1⟩, -, X1, ⟨Lc1, hQ1, l1, y1, z1⟩, st1⟩ := X0.specialBack hx (y := (⟨"java/util/ImmutableCollections$AbstractImmutableList", "<init>", "()V"⟩ : MethodName)) rfl hown (mvT hZ (hw _ (List.mem_of_getElem? (i := 40) rfl))) (mvT hZ (hw _ (List.mem_of_getElem? (i := 41) rfl))) (mvT hZ (hw _ (List.mem_of_getElem? (i := 45) rfl))) (by decide) (backOf (W := 0) (rm7 l Z a0 hw [] a1 h0 n0 (Nat.le_trans Z0 (Keep.refl h0 [a1]).1)) hZ (hw _ (List.mem_of_getElem? (i := 45) rfl)) (hw _ (List.mem_of_getElem? (i := 44) rfl)) (by decide) (by decide)) (g := (mkF m 1 #[.val (.ref a1), .val (.ref a2)] [(.ref a1)])) rfl (by rw [hml]; rfl) (Steps.refl _) (a := a1) (argsL := []) (rest := []) (lenOf pd_0 rfl) rfl (by show 2 * 0 + _ ≤ _; exact Nat.le_of_eq rfl) (hb hby d6_1) (fun _ _ => ⟨rfl, e0, (by decide : 0 + 0 ≤ _), (by decide : 0 + 0 ≤ _)⟩)
  dsimp only [Pt.U, Pt.locs, Pt.cells, Pt.slots] at X1 l1 y1 z1 st1 hQ1
  subst l1 y1 z1
  obtain ⟨rfl, N1q, eq1⟩ := hQ1
  have N1 := Fr.app N0 N1q
  have e1 : T1.heap = h0 := eq1
  obtain ⟨_, _, ⟨T2, L2, k2, n2⟩, -, X2, ⟨Lc2, hQ2, l2, y2, z2⟩, st2⟩ := Jvm.LawKit.callS X1 hx (y := (⟨"java/util/Objects", "requireNonNull", "(Ljava/lang/Object;)Ljava/lang/Object;"⟩ : MethodName)) hown (mvT hZ (hw _ (List.mem_of_getElem? (i := 61) rfl))) (mvT hZ (hw _ (List.mem_of_getElem? (i := 62) rfl))) (mvT hZ (hw _ (List.mem_of_getElem? (i := 63) rfl))) (mvT hZ (hw _ (List.mem_of_getElem? (i := 64) rfl))) (by decide) (backOf (W := 1) (rm11 l Z a0 hw [] a2 h0 n0 (Nat.le_trans Z0 (Keep.refl h0 [a1]).1)) hZ (hw _ (List.mem_of_getElem? (i := 64) rfl)) (hw _ (List.mem_of_getElem? (i := 63) rfl)) (by decide) (by decide)) (g := (mkF m 6 #[.val (.ref a1), .val (.ref a2)] [(.ref a2), (.ref a1)])) rfl (by rw [hml]; rfl) (argsL := [(.ref a2)]) (rest := [(.ref a1)]) (lenOf pd_2 rfl) rfl (by show 2 * 0 + _ ≤ _; exact Nat.le_of_eq rfl) (hb hby d6_6) (fun _ _ => ⟨rfl, e1, (by decide : 0 + 0 ≤ _), (by decide : 0 + 0 ≤ _)⟩)
  dsimp only [Pt.U, Pt.locs, Pt.cells, Pt.slots] at X2 l2 y2 z2 st2 hQ2
  subst l2 y2 z2
  obtain ⟨rfl, N2q, eq2⟩ := hQ2
  have N2 := Fr.app N1 N2q
  have e2 : T2.heap = h0 := eq2
  obtain ⟨T3, h3, X3, e3, W3, st3⟩ := putF X2 hx hZ hown (host := "") (Or.inl (hw _ (List.mem_of_getElem? (i := 65) rfl))) Via.refl e2 F0 E (Or.inr ⟨(hw _ (List.mem_of_getElem? (i := 66) rfl)), rfl, hnm⟩) (hw _ (List.mem_of_getElem? (i := 34) rfl)) (ty := (.object "java/lang/Object")) (by decide) rfl rfl (g := (mkF m 9 #[.val (.ref a1), .val (.ref a2)] [(.ref a2), (.ref a1)])) rfl rfl (hb hby d6_9)
  have Fw3 := F0.same W3
  have N3 := Fr.snoc X3 N2 ga
  have K4 : Keep h0 h3 [a1] := (Keep.refl h0 [a1]).wr W3 (Or.inl (List.mem_of_getElem? (i := 0) rfl))
  have f_5 := (O0.wr W3 ga)
  obtain ⟨T6, X6, e6, st6⟩ := getS2 X3 hx hZ hown (Or.inr (hw _ (List.mem_of_getElem? (i := 67) rfl))) Via.refl e3 (SM.ext f_5.2) (g := (mkF m 13 #[.val (.ref a1), .val (.ref a2)] [(.ref a1)])) rfl (hb hby d6_13)
  have f_7 := (F1.other W3 (Or.inr (slot_ne (Or.inr (hw _ (List.mem_of_getElem? (i := 69) rfl))) (Or.inr (hw _ (List.mem_of_getElem? (i := 66) rfl))) (by decide) (t := (.object "java/lang/Object")) (t' := (.object "java/lang/Object")) (by decide) (by decide))))
  have f_8 := (E.wr W3)
  obtain ⟨T9, h9, X9, e9, W9, st9⟩ := putF X6 hx hZ hown (host := "") (Or.inl (hw _ (List.mem_of_getElem? (i := 68) rfl))) Via.refl e6 f_7 f_8 (Or.inr ⟨(hw _ (List.mem_of_getElem? (i := 69) rfl)), rfl, hnm⟩) (hw _ (List.mem_of_getElem? (i := 34) rfl)) (ty := (.object "java/lang/Object")) (by decide) rfl rfl (g := (mkF m 16 #[.val (.ref a1), .val (.ref a2)] [(.ref wM), (.ref a1)])) rfl rfl (hb hby d6_16)
  have Fw9 := f_7.same W9
  have N9 := Fr.snoc X9 N3 ga
  have K10 : Keep h0 h9 [a1] := K4.wr W9 (Or.inl (List.mem_of_getElem? (i := 0) rfl))
  have f_11 := (f_8.wr W9)
  have f_12 := (Fw3.other W9 (Or.inr (slot_ne (Or.inr (hw _ (List.mem_of_getElem? (i := 66) rfl))) (Or.inr (hw _ (List.mem_of_getElem? (i := 69) rfl))) (by decide) (t := (.object "java/lang/Object")) (t' := (.object "java/lang/Object")) (by decide) (by decide))))
  obtain ⟨fs, hr, hrun, hended, hW, hsame⟩ := X9.leave (v := none) (fun _ => rfl)
  refine ⟨_, _, pre0 _ ?_, hrun, hended, _, _, rfl, ?_, ⟨_, rfl⟩, hW, hsame.mono (by decide) (by decide)⟩
  · show Steps p.tables e below (s₁.setTop (mkF m 0 #[.val (.ref a1), .val (.ref a2)] [])) _
    refine XS.aloadN X0.here hx rfl (hb hby d6_0) rfl rfl ?_
    show Steps p.tables e below (s₁.setTop (mkF m 1 #[.val (.ref a1), .val (.ref a2)] [(.ref a1)])) _
    refine st1.trans ?_
    show Steps p.tables e below (T1.setTop (mkF m 4 #[.val (.ref a1), .val (.ref a2)] [])) _
    refine XS.aloadN X1.here hx rfl (hb hby d6_4) rfl rfl ?_
    show Steps p.tables e below (T1.setTop (mkF m 5 #[.val (.ref a1), .val (.ref a2)] [(.ref a1)])) _
    refine XS.aloadN X1.here hx rfl (hb hby d6_5) rfl rfl ?_
    show Steps p.tables e below (T1.setTop (mkF m 6 #[.val (.ref a1), .val (.ref a2)] [(.ref a2), (.ref a1)])) _
    refine st2 _ ?_
    show Steps p.tables e below (T2.setTop (mkF m 9 #[.val (.ref a1), .val (.ref a2)] [(.ref a2), (.ref a1)])) _
    refine st3 _ ?_
    show Steps p.tables e below (T3.setTop (mkF m 12 #[.val (.ref a1), .val (.ref a2)] [])) _
    refine XS.aloadN X3.here hx rfl (hb hby d6_12) rfl rfl ?_
    show Steps p.tables e below (T3.setTop (mkF m 13 #[.val (.ref a1), .val (.ref a2)] [(.ref a1)])) _
    refine st6 _ ?_
    show Steps p.tables e below (T6.setTop (mkF m 16 #[.val (.ref a1), .val (.ref a2)] [(.ref wM), (.ref a1)])) _
    refine st9 _ ?_
    show Steps p.tables e below (T9.setTop (mkF m 19 #[.val (.ref a1), .val (.ref a2)] [])) _
    exact X9.returnOut hx Bd.returns (hb hby d6_19) hr
  · show Q_rm6 Z a1 a2 wM h0 n0 _ T9.heap _
    rw [e9]
    exact ⟨rfl, N9, K10, f_11, f_12, Fw9⟩
theorem ef_5 (m : MethodId) (x0 : Addr) : entryFrame m #[(.ref x0)] 1 = mkF m 0 #[.val (.ref x0)] [] := by first | (simp [entryFrame, mkF, argsToLocals, Value.category]; done) | rfl
theorem d5_0 : decode jdk_40_method_37_code 0 = .ok (.new 96, 3) := by decide +kernel
theorem d5_3 : decode jdk_40_method_37_code 3 = .ok (.dup, 1) := by decide +kernel
theorem d5_4 : decode jdk_40_method_37_code 4 = .ok (.aload_n 0, 1) := by decide +kernel
theorem d5_5 : decode jdk_40_method_37_code 5 = .ok (.invokespecial 98, 3) := by decide +kernel
theorem pd_3 : parseMethodDescriptor "(Ljava/lang/Object;)V" = some ⟨[(.object "java/lang/Object")], none⟩ := by decide +kernel
theorem d5_8 : decode jdk_40_method_37_code 8 = .ok (.areturn, 1) := by decide +kernel
def Q_rm5 (Z : State) (a1 : Addr) (wM : Addr) (h0 : Heap) (n0 : Nat) (v : Option Value) (h : Heap) (L : List Loc) : Prop := ∃ r : Addr, v = some (.ref r) ∧ Fr n0 L ∧ Keep h0 h [] ∧ Exa Z h r "java/util/ImmutableCollections$List12" ∧ Fld Z h r "java/util/ImmutableCollections$List12" "e0" "Ljava/lang/Object;" (.ref a1) ∧ Fld Z h r "java/util/ImmutableCollections$List12" "e1" "Ljava/lang/Object;" (.ref wM)
set_option maxRecDepth 65536 in
set_option maxHeartbeats 40000000 in
theorem rm5 (l : Launch) (Z : State) (a0 : Array Value) (hw : ∀ d ∈ tables_1, d.before a0 Z = true) (ws : List Jvm.Cond) (a1 : Addr) (wM : Addr) (h0 : Heap) (n0 : Nat) (Z0 : n0 ≤ h0.size) (O0 : Old Z n0 h0) (SM : Sta Z Z.heap "java/util/ImmutableCollections" "EMPTY" "Ljava/lang/Object;" (.ref wM)) :
    MetFree l (⟨"java/util/List", "of", "(Ljava/lang/Object;)Ljava/util/List;"⟩ : MethodName) (head1 (Jvm.Cond.code (⟨"java/util/List", "of", "(Ljava/lang/Object;)Ljava/util/List;"⟩ : MethodName) jdk_40_method_37_code 1 (some (.object "java/util/List")) :: ws) ({ frames := 5, cells := 1, slots := 2, locals := 62 } : Room)) (fun a U => a = #[(.ref a1)] ∧ Z.Warmed39 U.vm ∧ U.heap = h0) (fun _ _ _ _ _ => True) (fun _ U o U' => ∃ v L, o = .returned v ∧ Q_rm5 Z a1 wM h0 n0 v U'.heap L ∧ FrameEnd U o U' L ({ frames := 5, cells := 1, slots := 2, locals := 62 } : Room).cells ({ frames := 5, cells := 1, slots := 2, locals := 62 } : Room).slots) := by
  refine MetFree.of_bodySF (plainFor_of_name pn_java_util_List) hisR ?_
  intro p e s m args below meth c s₁ Bd hml0 hP hK
  obtain ⟨rfl, hZ, hh⟩ := hP
  have hx := Bd.exec
  have hby := Bd.bytes
  have hml : c.maxLocals = 1 := hml0
  have hown : s.vm.findClass "java/util/List" = some m.cls := findClass_of_methodNamed Bd.named
  have hnm := (name_of_methodNamed Bd.named Bd.method).1
  have X0 : Stand p l e ({ frames := 5, cells := 1, slots := 2, locals := 62 } : Room) s m #[(.ref a1)] below meth c s₁ [] 0 0 := Stand.of_body Bd
  have e0 : s₁.heap = h0 := by rw [← hh, Bd.state]; rfl
  have N0 := Fr.nil n0
  have pre0 : ∀ t, Steps p.tables e below (s₁.setTop (mkF m 0 #[.val (.ref a1)] [])) t → Steps p.tables e below (s₁.setTop (entryFrame m #[(.ref a1)] 1)) t := fun t k => castTop (ef_5 m a1) k
  obtain ⟨S0, hS0⟩ : ∃ S, S = s₁.setTop (entryFrame m #[(.ref a1)] 1) := ⟨_, rfl⟩
  rw [← hS0] at pre0 ⊢
  obtain ⟨T1, h1, X1, e1, E1, A1, D1, -, st1⟩ := newO X0 hx hZ hown (hw _ (List.mem_of_getElem? (i := 33) rfl)) (hw _ (List.mem_of_getElem? (i := 34) rfl)) (hw _ (List.mem_of_getElem? (i := 35) rfl)) e0 (g := (mkF m 0 #[.val (.ref a1)] [])) rfl (hb hby d5_0) (by decide) (by decide)
  obtain ⟨b1, g1⟩ : ∃ z, z = h0.size := ⟨_, rfl⟩
  rw [← g1] at A1 D1 st1
  have gn_b1 : n0 ≤ b1 := Nat.le_trans (Nat.le_trans Z0 (Keep.refl h0 []).1) (Nat.le_of_eq g1.symm)
  have sz_b1 : h0.size ≤ b1 := Nat.le_trans (Keep.refl h0 []).1 (Nat.le_of_eq g1.symm)
  have K2 : Keep h0 h1 [] := (Keep.refl h0 []).ext E1
  have lt_b1 : b1 < h1.size := A1.lt
  have F_e0_b1 : Fld Z h1 b1 "java/util/ImmutableCollections$List12" "e0" "Ljava/lang/Object;" .null := D1 (Or.inr (hw _ (List.mem_of_getElem? (i := 66) rfl))) (ty := (.object "java/lang/Object")) (by decide)
  have F_e1_b1 : Fld Z h1 b1 "java/util/ImmutableCollections$List12" "e1" "Ljava/lang/Object;" .null := D1 (Or.inr (hw _ (List.mem_of_getElem? (i := 69) rfl))) (ty := (.object "java/lang/Object")) (by decide)
  have f_3 := (O0.ext E1)
  obtain ⟨_, _, ⟨T4, L4, k4, n4⟩, -, X4, ⟨Lc4, hQ4, l4, y4, z4⟩, st4⟩ := X1.specialBack hx (y := (⟨"java/util/ImmutableCollections$List12", "<init>", "(Ljava/lang/Object;)V"⟩ : MethodName)) rfl hown (mvT hZ (hw _ (List.mem_of_getElem? (i := 36) rfl))) (mvT hZ (hw _ (List.mem_of_getElem? (i := 37) rfl))) (mvT hZ (hw _ (List.mem_of_getElem? (i := 39) rfl))) (by decide) (backOf (W := 1) (rm6 l Z a0 hw [] b1 a1 wM h1 n0 (Nat.le_trans Z0 K2.1) A1 gn_b1 f_3 SM F_e0_b1 F_e1_b1) hZ (hw _ (List.mem_of_getElem? (i := 39) rfl)) (hw _ (List.mem_of_getElem? (i := 35) rfl)) (by decide) (by decide)) (g := (mkF m 5 #[.val (.ref a1)] [(.ref a1), (.ref b1), (.ref b1)])) rfl (by rw [hml]; rfl) (Steps.refl _) (a := b1) (argsL := [(.ref a1)]) (rest := [(.ref b1)]) (lenOf pd_3 rfl) rfl (by show 2 * 0 + _ ≤ _; exact Nat.le_of_eq rfl) (hb hby d5_5) (fun _ _ => ⟨rfl, e1, (by decide : 1 + 0 ≤ _), (by decide : 2 + 0 ≤ _)⟩)
  dsimp only [Pt.U, Pt.locs, Pt.cells, Pt.slots] at X4 l4 y4 z4 st4 hQ4
  subst l4 y4 z4
  obtain ⟨rfl, N4q, K4, Eq4, F0q4, F1q4⟩ := hQ4
  have N4 := Fr.app N0 N4q
  have K5 : Keep h0 T4.heap [] := K2.trans K4 (allS (Or.inr sz_b1) all0)
  obtain ⟨fs, hr, hrun, hended, hW, hsame⟩ := X4.leave (v := some (.ref b1)) (fun h => by rw [Bd.returns] at h; cases h)
  refine ⟨_, _, pre0 _ ?_, hrun, hended, _, _, rfl, ?_, ⟨_, rfl⟩, hW, hsame.mono (by decide) (by decide)⟩
  · show Steps p.tables e below (s₁.setTop (mkF m 0 #[.val (.ref a1)] [])) _
    refine st1 _ ?_
    show Steps p.tables e below (T1.setTop (mkF m 3 #[.val (.ref a1)] [(.ref b1)])) _
    refine XS.dup X1.here hx rfl (hb hby d5_3) rfl rfl ?_
    show Steps p.tables e below (T1.setTop (mkF m 4 #[.val (.ref a1)] [(.ref b1), (.ref b1)])) _
    refine XS.aloadN X1.here hx rfl (hb hby d5_4) rfl rfl ?_
    show Steps p.tables e below (T1.setTop (mkF m 5 #[.val (.ref a1)] [(.ref a1), (.ref b1), (.ref b1)])) _
    refine st4.trans ?_
    show Steps p.tables e below (T4.setTop (mkF m 8 #[.val (.ref a1)] [(.ref b1)])) _
    jvm_step X4.here [X4.here.top, hx, (hb hby d5_8), X4.method', Bd.returns, Value.isRef, FieldType.isReference]
    first | (intro acts; rw [hr _ acts rfl rfl rfl]) | rw [hr _ _ rfl rfl rfl]
    exact Steps.refl _
  · show Q_rm5 Z a1 wM h0 n0 _ T4.heap _
    exact ⟨b1, rfl, N4, K5, Eq4, F0q4, F1q4⟩
theorem ef_12 (m : MethodId) (x0 : Addr) : entryFrame m #[(.ref x0)] 1 = mkF m 0 #[.val (.ref x0)] [] := by first | (simp [entryFrame, mkF, argsToLocals, Value.category]; done) | rfl
theorem d12_0 : decode jdk_44_method_3_code 0 = .ok (.aload_n 0, 1) := by decide +kernel
theorem d12_1 : decode jdk_44_method_3_code 1 = .ok (.getfield 24, 3) := by decide +kernel
theorem d12_4 : decode jdk_44_method_3_code 4 = .ok (.getstatic 19, 3) := by decide +kernel
theorem d12_7 : decode jdk_44_method_3_code 7 = .ok (.if_acmp .eq 7, 3) := by decide +kernel
theorem d12_14 : decode jdk_44_method_3_code 14 = .ok (.iconst 1, 1) := by decide +kernel
theorem d12_15 : decode jdk_44_method_3_code 15 = .ok (.ireturn, 1) := by decide +kernel
def Q_rm12 (Z : State) (a1 : Addr) (wM : Addr) (h0 : Heap) (n0 : Nat) (v : Option Value) (h : Heap) (L : List Loc) : Prop := v = some (.int 1) ∧ Fr n0 L ∧ h = h0
set_option maxRecDepth 65536 in
set_option maxHeartbeats 40000000 in
theorem rm12 (l : Launch) (Z : State) (a0 : Array Value) (hw : ∀ d ∈ tables_1, d.before a0 Z = true) (ws : List Jvm.Cond) (a1 : Addr) (wM : Addr) (h0 : Heap) (n0 : Nat) (Z0 : n0 ≤ h0.size) (SM : Sta Z h0 "java/util/ImmutableCollections" "EMPTY" "Ljava/lang/Object;" (.ref wM)) (F1 : Fld Z h0 a1 "java/util/ImmutableCollections$List12" "e1" "Ljava/lang/Object;" (.ref wM)) :
    MetFree l (⟨"java/util/ImmutableCollections$List12", "size", "()I"⟩ : MethodName) (head1 (Jvm.Cond.code (⟨"java/util/ImmutableCollections$List12", "size", "()I"⟩ : MethodName) jdk_44_method_3_code 1 (some .int) :: ws) ({ frames := 0, cells := 0, slots := 0, locals := 0 } : Room)) (fun a U => a = #[(.ref a1)] ∧ Z.Warmed39 U.vm ∧ U.heap = h0) (fun _ _ _ _ _ => True) (fun _ U o U' => ∃ v L, o = .returned v ∧ Q_rm12 Z a1 wM h0 n0 v U'.heap L ∧ FrameEnd U o U' L ({ frames := 0, cells := 0, slots := 0, locals := 0 } : Room).cells ({ frames := 0, cells := 0, slots := 0, locals := 0 } : Room).slots) := by
  refine MetFree.of_bodySF (plainFor_of_name pn_java_util_ImmutableCollections_List12) hisR ?_
  intro p e s m args below meth c s₁ Bd hml0 hP hK
  obtain ⟨rfl, hZ, hh⟩ := hP
  have hx := Bd.exec
  have hby := Bd.bytes
  have hml : c.maxLocals = 1 := hml0
  have hown : s.vm.findClass "java/util/ImmutableCollections$List12" = some m.cls := findClass_of_methodNamed Bd.named
  have hnm := (name_of_methodNamed Bd.named Bd.method).1
  have X0 : Stand p l e ({ frames := 0, cells := 0, slots := 0, locals := 0 } : Room) s m #[(.ref a1)] below meth c s₁ [] 0 0 := Stand.of_body Bd
  have e0 : s₁.heap = h0 := by rw [← hh, Bd.state]; rfl
  have N0 := Fr.nil n0
  have pre0 : ∀ t, Steps p.tables e below (s₁.setTop (mkF m 0 #[.val (.ref a1)] [])) t → Steps p.tables e below (s₁.setTop (entryFrame m #[(.ref a1)] 1)) t := fun t k => castTop (ef_12 m a1) k
  obtain ⟨S0, hS0⟩ : ∃ S, S = s₁.setTop (entryFrame m #[(.ref a1)] 1) := ⟨_, rfl⟩
  rw [← hS0] at pre0 ⊢
  obtain ⟨T1, X1, e1, st1⟩ := getF X0 hx hZ hown (host := "") (Or.inl (hw _ (List.mem_of_getElem? (i := 68) rfl))) Via.refl e0 F1 (g := (mkF m 1 #[.val (.ref a1)] [(.ref a1)])) rfl rfl (hb hby d12_1)
  obtain ⟨T2, X2, e2, st2⟩ := getS2 X1 hx hZ hown (Or.inr (hw _ (List.mem_of_getElem? (i := 67) rfl))) Via.refl e1 SM (g := (mkF m 4 #[.val (.ref a1)] [(.ref wM)])) rfl (hb hby d12_4)
  obtain ⟨fs, hr, hrun, hended, hW, hsame⟩ := X2.leave (v := some (.int (1 : Int32))) (fun h => by rw [Bd.returns] at h; cases h)
  refine ⟨_, _, pre0 _ ?_, hrun, hended, _, _, rfl, ?_, ⟨_, rfl⟩, hW, hsame.mono (by decide) (by decide)⟩
  · show Steps p.tables e below (s₁.setTop (mkF m 0 #[.val (.ref a1)] [])) _
    refine XS.aloadN X0.here hx rfl (hb hby d12_0) rfl rfl ?_
    show Steps p.tables e below (s₁.setTop (mkF m 1 #[.val (.ref a1)] [(.ref a1)])) _
    refine st1 _ ?_
    show Steps p.tables e below (T1.setTop (mkF m 4 #[.val (.ref a1)] [(.ref wM)])) _
    refine st2 _ ?_
    show Steps p.tables e below (T2.setTop (mkF m 7 #[.val (.ref a1)] [(.ref wM), (.ref wM)])) _
    refine Jvm.RoadKit.acmp (g := (mkF m 7 #[.val (.ref a1)] [(.ref wM), (.ref wM)])) X2 hx rfl rfl rfl (pc0 := 7) (pc' := 14) (same := true) rfl (hb hby d12_7) rfl (decide_eq_true rfl) (by decide) (by decide) ?_
    show Steps p.tables e below (T2.setTop (mkF m 14 #[.val (.ref a1)] [])) _
    refine XS.iconst X2.here hx rfl (hb hby d12_14) ?_
    show Steps p.tables e below (T2.setTop (mkF m 15 #[.val (.ref a1)] [(.int (1 : Int32))])) _
    exact retI X2 hx Bd.returns (hb hby d12_15) hr
  · show Q_rm12 Z a1 wM h0 n0 _ T2.heap _
    rw [e2]
    exact ⟨rfl, N0, rfl⟩
theorem ef_13 (m : MethodId) (x0 : Addr) (x1 : Int32) : entryFrame m #[(.ref x0), (.int x1)] 2 = mkF m 0 #[.val (.ref x0), .val (.int x1)] [] := by first | (simp [entryFrame, mkF, argsToLocals, Value.category]; done) | rfl
theorem d13_0 : decode jdk_44_method_5_code 0 = .ok (.iload_n 1, 1) := by decide +kernel
theorem d13_1 : decode jdk_44_method_5_code 1 = .ok (.ifCond .ne 8, 3) := by decide +kernel
theorem d13_4 : decode jdk_44_method_5_code 4 = .ok (.aload_n 0, 1) := by decide +kernel
theorem d13_5 : decode jdk_44_method_5_code 5 = .ok (.getfield 13, 3) := by decide +kernel
theorem d13_8 : decode jdk_44_method_5_code 8 = .ok (.areturn, 1) := by decide +kernel
def Q_rm13 (Z : State) (a1 : Addr) (x : Addr) (h0 : Heap) (n0 : Nat) (v : Option Value) (h : Heap) (L : List Loc) : Prop := v = some (.ref x) ∧ Fr n0 L ∧ h = h0
set_option maxRecDepth 65536 in
set_option maxHeartbeats 40000000 in
theorem rm13 (l : Launch) (Z : State) (a0 : Array Value) (hw : ∀ d ∈ tables_1, d.before a0 Z = true) (ws : List Jvm.Cond) (a1 : Addr) (x : Addr) (h0 : Heap) (n0 : Nat) (Z0 : n0 ≤ h0.size) (F0 : Fld Z h0 a1 "java/util/ImmutableCollections$List12" "e0" "Ljava/lang/Object;" (.ref x)) :
    MetFree l (⟨"java/util/ImmutableCollections$List12", "get", "(I)Ljava/lang/Object;"⟩ : MethodName) (head1 (Jvm.Cond.code (⟨"java/util/ImmutableCollections$List12", "get", "(I)Ljava/lang/Object;"⟩ : MethodName) jdk_44_method_5_code 2 (some (.object "java/lang/Object")) :: ws) ({ frames := 0, cells := 0, slots := 0, locals := 0 } : Room)) (fun a U => a = #[(.ref a1), (.int (0 : Int32))] ∧ Z.Warmed39 U.vm ∧ U.heap = h0) (fun _ _ _ _ _ => True) (fun _ U o U' => ∃ v L, o = .returned v ∧ Q_rm13 Z a1 x h0 n0 v U'.heap L ∧ FrameEnd U o U' L ({ frames := 0, cells := 0, slots := 0, locals := 0 } : Room).cells ({ frames := 0, cells := 0, slots := 0, locals := 0 } : Room).slots) := by
  refine MetFree.of_bodySF (plainFor_of_name pn_java_util_ImmutableCollections_List12) hisR ?_
  intro p e s m args below meth c s₁ Bd hml0 hP hK
  obtain ⟨rfl, hZ, hh⟩ := hP
  have hx := Bd.exec
  have hby := Bd.bytes
  have hml : c.maxLocals = 2 := hml0
  have hown : s.vm.findClass "java/util/ImmutableCollections$List12" = some m.cls := findClass_of_methodNamed Bd.named
  have hnm := (name_of_methodNamed Bd.named Bd.method).1
  have X0 : Stand p l e ({ frames := 0, cells := 0, slots := 0, locals := 0 } : Room) s m #[(.ref a1), (.int (0 : Int32))] below meth c s₁ [] 0 0 := Stand.of_body Bd
  have e0 : s₁.heap = h0 := by rw [← hh, Bd.state]; rfl
  have N0 := Fr.nil n0
  have pre0 : ∀ t, Steps p.tables e below (s₁.setTop (mkF m 0 #[.val (.ref a1), .val (.int (0 : Int32))] [])) t → Steps p.tables e below (s₁.setTop (entryFrame m #[(.ref a1), (.int (0 : Int32))] 2)) t := fun t k => castTop (ef_13 m a1 (0 : Int32)) k
  obtain ⟨S0, hS0⟩ : ∃ S, S = s₁.setTop (entryFrame m #[(.ref a1), (.int (0 : Int32))] 2) := ⟨_, rfl⟩
  rw [← hS0] at pre0 ⊢
  obtain ⟨T1, X1, e1, st1⟩ := getF X0 hx hZ hown (host := "") (Or.inl (hw _ (List.mem_of_getElem? (i := 65) rfl))) Via.refl e0 F0 (g := (mkF m 5 #[.val (.ref a1), .val (.int (0 : Int32))] [(.ref a1)])) rfl rfl (hb hby d13_5)
  obtain ⟨fs, hr, hrun, hended, hW, hsame⟩ := X1.leave (v := some (.ref x)) (fun h => by rw [Bd.returns] at h; cases h)
  refine ⟨_, _, pre0 _ ?_, hrun, hended, _, _, rfl, ?_, ⟨_, rfl⟩, hW, hsame.mono (by decide) (by decide)⟩
  · show Steps p.tables e below (s₁.setTop (mkF m 0 #[.val (.ref a1), .val (.int (0 : Int32))] [])) _
    refine XS.iloadN X0.here hx rfl (hb hby d13_0) rfl ?_
    show Steps p.tables e below (s₁.setTop (mkF m 1 #[.val (.ref a1), .val (.int (0 : Int32))] [(.int (0 : Int32))])) _
    refine XS.ifNo X0.here hx rfl (hb hby d13_1) rfl ((if0 _ _).trans (teq rfl).2) ?_
    show Steps p.tables e below (s₁.setTop (mkF m 4 #[.val (.ref a1), .val (.int (0 : Int32))] [])) _
    refine XS.aloadN X0.here hx rfl (hb hby d13_4) rfl rfl ?_
    show Steps p.tables e below (s₁.setTop (mkF m 5 #[.val (.ref a1), .val (.int (0 : Int32))] [(.ref a1)])) _
    refine st1 _ ?_
    show Steps p.tables e below (T1.setTop (mkF m 8 #[.val (.ref a1), .val (.int (0 : Int32))] [(.ref x)])) _
    jvm_step X1.here [X1.here.top, hx, (hb hby d13_8), X1.method', Bd.returns, Value.isRef, FieldType.isReference]
    first | (intro acts; rw [hr _ acts rfl rfl rfl]) | rw [hr _ _ rfl rfl rfl]
    exact Steps.refl _
  · show Q_rm13 Z a1 x h0 n0 _ T1.heap _
    rw [e1]
    exact ⟨rfl, N0, rfl⟩
theorem ef_14 (m : MethodId) (x0 : Addr) : entryFrame m #[(.ref x0)] 1 = mkF m 0 #[.val (.ref x0)] [] := by first | (simp [entryFrame, mkF, argsToLocals, Value.category]; done) | rfl
theorem d14_0 : decode jdk_33_method_27_code 0 = .ok (.aload_n 0, 1) := by decide +kernel
theorem d14_1 : decode jdk_33_method_27_code 1 = .ok (.getfield 205, 3) := by decide +kernel
theorem d14_4 : decode jdk_33_method_27_code 4 = .ok (.ireturn, 1) := by decide +kernel
def Q_rm14 (Z : State) (a1 : Addr) (k : Int32) (h0 : Heap) (n0 : Nat) (v : Option Value) (h : Heap) (L : List Loc) : Prop := v = some (.int k) ∧ Fr n0 L ∧ h = h0
set_option maxRecDepth 65536 in
set_option maxHeartbeats 40000000 in
theorem rm14 (l : Launch) (Z : State) (a0 : Array Value) (hw : ∀ d ∈ tables_1, d.before a0 Z = true) (ws : List Jvm.Cond) (a1 : Addr) (k : Int32) (h0 : Heap) (n0 : Nat) (Z0 : n0 ≤ h0.size) (F : Fld Z h0 a1 "java/lang/Integer" "value" "I" (.int k)) :
    MetFree l (⟨"java/lang/Integer", "intValue", "()I"⟩ : MethodName) (head1 (Jvm.Cond.code (⟨"java/lang/Integer", "intValue", "()I"⟩ : MethodName) jdk_33_method_27_code 1 (some .int) :: ws) ({ frames := 0, cells := 0, slots := 0, locals := 0 } : Room)) (fun a U => a = #[(.ref a1)] ∧ Z.Warmed39 U.vm ∧ U.heap = h0) (fun _ _ _ _ _ => True) (fun _ U o U' => ∃ v L, o = .returned v ∧ Q_rm14 Z a1 k h0 n0 v U'.heap L ∧ FrameEnd U o U' L ({ frames := 0, cells := 0, slots := 0, locals := 0 } : Room).cells ({ frames := 0, cells := 0, slots := 0, locals := 0 } : Room).slots) := by
  refine MetFree.of_bodySF (plainFor_of_name pn_java_lang_Integer) hisR ?_
  intro p e s m args below meth c s₁ Bd hml0 hP hK
  obtain ⟨rfl, hZ, hh⟩ := hP
  have hx := Bd.exec
  have hby := Bd.bytes
  have hml : c.maxLocals = 1 := hml0
  have hown : s.vm.findClass "java/lang/Integer" = some m.cls := findClass_of_methodNamed Bd.named
  have hnm := (name_of_methodNamed Bd.named Bd.method).1
  have X0 : Stand p l e ({ frames := 0, cells := 0, slots := 0, locals := 0 } : Room) s m #[(.ref a1)] below meth c s₁ [] 0 0 := Stand.of_body Bd
  have e0 : s₁.heap = h0 := by rw [← hh, Bd.state]; rfl
  have N0 := Fr.nil n0
  have pre0 : ∀ t, Steps p.tables e below (s₁.setTop (mkF m 0 #[.val (.ref a1)] [])) t → Steps p.tables e below (s₁.setTop (entryFrame m #[(.ref a1)] 1)) t := fun t k => castTop (ef_14 m a1) k
  obtain ⟨S0, hS0⟩ : ∃ S, S = s₁.setTop (entryFrame m #[(.ref a1)] 1) := ⟨_, rfl⟩
  rw [← hS0] at pre0 ⊢
  obtain ⟨T1, X1, e1, st1⟩ := getF X0 hx hZ hown (host := "") (Or.inl (hw _ (List.mem_of_getElem? (i := 91) rfl))) Via.refl e0 F (g := (mkF m 1 #[.val (.ref a1)] [(.ref a1)])) rfl rfl (hb hby d14_1)
  obtain ⟨fs, hr, hrun, hended, hW, hsame⟩ := X1.leave (v := some (.int k)) (fun h => by rw [Bd.returns] at h; cases h)
  refine ⟨_, _, pre0 _ ?_, hrun, hended, _, _, rfl, ?_, ⟨_, rfl⟩, hW, hsame.mono (by decide) (by decide)⟩
  · show Steps p.tables e below (s₁.setTop (mkF m 0 #[.val (.ref a1)] [])) _
    refine XS.aloadN X0.here hx rfl (hb hby d14_0) rfl rfl ?_
    show Steps p.tables e below (s₁.setTop (mkF m 1 #[.val (.ref a1)] [(.ref a1)])) _
    refine st1 _ ?_
    show Steps p.tables e below (T1.setTop (mkF m 4 #[.val (.ref a1)] [(.int k)])) _
    exact retI X1 hx Bd.returns (hb hby d14_4) hr
  · show Q_rm14 Z a1 k h0 n0 _ T1.heap _
    rw [e1]
    exact ⟨rfl, N0, rfl⟩
theorem pn_com_example_affix_affix_bench_StartupGraph : plainName "com/example/affix/affix/bench/StartupGraph" = true := by first | (simp [plainName, overriddenIn]; done) | decide +kernel
theorem ef_1 (m : MethodId) (x0 : Int32) : entryFrame m #[(.int x0)] 1 = mkF m 0 #[.val (.int x0)] [] := by first | (simp [entryFrame, mkF, argsToLocals, Value.category]; done) | rfl
theorem d1_0 : decode prog_19_method_3_code 0 = .ok (.iload_n 0, 1) := by decide +kernel
theorem d1_1 : decode prog_19_method_3_code 1 = .ok (.ifCond .ne 9, 3) := by decide +kernel
theorem d1_4 : decode prog_19_method_3_code 4 = .ok (.invokestatic 7, 3) := by decide +kernel
theorem pd_4 : parseMethodDescriptor "()Ljava/util/List;" = some ⟨[], some (.object "java/util/List")⟩ := by decide +kernel
theorem d1_7 : decode prog_19_method_3_code 7 = .ok (.goto 12, 3) := by decide +kernel
theorem d1_19 : decode prog_19_method_3_code 19 = .ok (.areturn, 1) := by decide +kernel
def Q_rm1z (Z : State) (p1 : Int32) (wE : Addr) (h0 : Heap) (n0 : Nat) (v : Option Value) (h : Heap) (L : List Loc) : Prop := v = some (.ref wE) ∧ Fr n0 L ∧ h = h0
set_option maxRecDepth 65536 in
set_option maxHeartbeats 40000000 in
theorem rm1z (l : Launch) (Z : State) (a0 : Array Value) (hw : ∀ d ∈ tables_1, d.before a0 Z = true) (ws : List Jvm.Cond) (p1 : Int32) (wE : Addr) (h0 : Heap) (n0 : Nat) (Z0 : n0 ≤ h0.size) (SE : Sta Z h0 "java/util/ImmutableCollections" "EMPTY_LIST" "Ljava/util/ImmutableCollections$ListN;" (.ref wE)) (hz : p1 = (0 : Int32)) :
    MetFree l (⟨"com/example/affix/affix/bench/StartupGraph", "fields", "(I)Ljava/util/List;"⟩ : MethodName) (head1 (Jvm.Cond.code (⟨"com/example/affix/affix/bench/StartupGraph", "fields", "(I)Ljava/util/List;"⟩ : MethodName) prog_19_method_3_code 1 (some (.object "java/util/List")) :: ws) ({ frames := 6, cells := 2, slots := 3, locals := 76 } : Room)) (fun a U => a = #[(.int p1)] ∧ Z.Warmed39 U.vm ∧ U.heap = h0) (fun _ _ _ _ _ => True) (fun _ U o U' => ∃ v L, o = .returned v ∧ Q_rm1z Z p1 wE h0 n0 v U'.heap L ∧ FrameEnd U o U' L ({ frames := 6, cells := 2, slots := 3, locals := 76 } : Room).cells ({ frames := 6, cells := 2, slots := 3, locals := 76 } : Room).slots) := by
  refine MetFree.of_bodySF (plainFor_of_name pn_com_example_affix_affix_bench_StartupGraph) hisR ?_
  intro p e s m args below meth c s₁ Bd hml0 hP hK
  obtain ⟨rfl, hZ, hh⟩ := hP
  have hx := Bd.exec
  have hby := Bd.bytes
  have hml : c.maxLocals = 1 := hml0
  have hown : s.vm.findClass "com/example/affix/affix/bench/StartupGraph" = some m.cls := findClass_of_methodNamed Bd.named
  have hnm := (name_of_methodNamed Bd.named Bd.method).1
  have X0 : Stand p l e ({ frames := 6, cells := 2, slots := 3, locals := 76 } : Room) s m #[(.int p1)] below meth c s₁ [] 0 0 := Stand.of_body Bd
  have e0 : s₁.heap = h0 := by rw [← hh, Bd.state]; rfl
  have N0 := Fr.nil n0
  have pre0 : ∀ t, Steps p.tables e below (s₁.setTop (mkF m 0 #[.val (.int p1)] [])) t → Steps p.tables e below (s₁.setTop (entryFrame m #[(.int p1)] 1)) t := fun t k => castTop (ef_1 m p1) k
  obtain ⟨S0, hS0⟩ : ∃ S, S = s₁.setTop (entryFrame m #[(.int p1)] 1) := ⟨_, rfl⟩
  rw [← hS0] at pre0 ⊢
  obtain ⟨_, _, ⟨T1, L1, k1, n1⟩, -, X1, ⟨Lc1, hQ1, l1, y1, z1⟩, st1⟩ := Jvm.LawKit.callS X0 hx (y := (⟨"java/util/List", "of", "()Ljava/util/List;"⟩ : MethodName)) hown (mvT hZ (hw _ (List.mem_of_getElem? (i := 5) rfl))) (mvT hZ (hw _ (List.mem_of_getElem? (i := 6) rfl))) (mvT hZ (hw _ (List.mem_of_getElem? (i := 7) rfl))) (mvT hZ (hw _ (List.mem_of_getElem? (i := 8) rfl))) (by decide) (backOf (W := 0) (rm2 l Z a0 hw [] wE h0 n0 (Nat.le_trans Z0 (Keep.refl h0 []).1) SE) hZ (hw _ (List.mem_of_getElem? (i := 8) rfl)) (hw _ (List.mem_of_getElem? (i := 7) rfl)) (by decide) (by decide)) (g := (mkF m 4 #[.val (.int p1)] [])) rfl (by rw [hml]; rfl) (argsL := []) (rest := []) (lenOf pd_4 rfl) rfl (by show 2 * 0 + _ ≤ _; exact Nat.le_of_eq rfl) (hb hby d1_4) (fun _ _ => ⟨rfl, e0, (by decide : 0 + 0 ≤ _), (by decide : 0 + 0 ≤ _)⟩)
  dsimp only [Pt.U, Pt.locs, Pt.cells, Pt.slots] at X1 l1 y1 z1 st1 hQ1
  subst l1 y1 z1
  obtain ⟨rfl, N1q, eq1⟩ := hQ1
  have N1 := Fr.app N0 N1q
  have e1 : T1.heap = h0 := eq1
  obtain ⟨fs, hr, hrun, hended, hW, hsame⟩ := X1.leave (v := some (.ref wE)) (fun h => by rw [Bd.returns] at h; cases h)
  refine ⟨_, _, pre0 _ ?_, hrun, hended, _, _, rfl, ?_, ⟨_, rfl⟩, hW, hsame.mono (by decide) (by decide)⟩
  · show Steps p.tables e below (s₁.setTop (mkF m 0 #[.val (.int p1)] [])) _
    refine XS.iloadN X0.here hx rfl (hb hby d1_0) rfl ?_
    show Steps p.tables e below (s₁.setTop (mkF m 1 #[.val (.int p1)] [(.int p1)])) _
    refine XS.ifNo X0.here hx rfl (hb hby d1_1) rfl ((if0 _ _).trans (teq hz).2) ?_
    show Steps p.tables e below (s₁.setTop (mkF m 4 #[.val (.int p1)] [])) _
    refine st1 _ ?_
    show Steps p.tables e below (T1.setTop (mkF m 7 #[.val (.int p1)] [(.ref wE)])) _
    refine XS.goto X1.here hx rfl (pc0 := 7) (pc' := 19) rfl (hb hby d1_7) (by decide) (by decide) ?_
    show Steps p.tables e below (T1.setTop (mkF m 19 #[.val (.int p1)] [(.ref wE)])) _
    jvm_step X1.here [X1.here.top, hx, (hb hby d1_19), X1.method', Bd.returns, Value.isRef, FieldType.isReference]
    first | (intro acts; rw [hr _ acts rfl rfl rfl]) | rw [hr _ _ rfl rfl rfl]
    exact Steps.refl _
  · show Q_rm1z Z p1 wE h0 n0 _ T1.heap _
    rw [e1]
    exact ⟨rfl, N1, rfl⟩
theorem d1_10 : decode prog_19_method_3_code 10 = .ok (.iload_n 0, 1) := by decide +kernel
theorem d1_11 : decode prog_19_method_3_code 11 = .ok (.iconst 4, 1) := by decide +kernel
theorem d1_12 : decode prog_19_method_3_code 12 = .ok (.idiv, 1) := by decide +kernel
theorem d1_13 : decode prog_19_method_3_code 13 = .ok (.invokestatic 15, 3) := by decide +kernel
theorem pd_5 : parseMethodDescriptor "(I)Ljava/lang/Integer;" = some ⟨[.int], some (.object "java/lang/Integer")⟩ := by decide +kernel
theorem d1_16 : decode prog_19_method_3_code 16 = .ok (.invokestatic 31, 3) := by decide +kernel
theorem pd_6 : parseMethodDescriptor "(Ljava/lang/Object;)Ljava/util/List;" = some ⟨[(.object "java/lang/Object")], some (.object "java/util/List")⟩ := by decide +kernel
def Q_rm1p (Z : State) (p1 : Int32) (wM : Addr) (aC : Addr) (clC : Cell) (h0 : Heap) (n0 : Nat) (v : Option Value) (h : Heap) (L : List Loc) : Prop := ∃ r : Addr, v = some (.ref r) ∧ Fr n0 L ∧ Keep h0 h [] ∧ ∃ x : Addr, Exa Z h r "java/util/ImmutableCollections$List12" ∧ Fld Z h r "java/util/ImmutableCollections$List12" "e0" "Ljava/lang/Object;" (.ref x) ∧ Fld Z h r "java/util/ImmutableCollections$List12" "e1" "Ljava/lang/Object;" (.ref wM) ∧ Exa Z h x "java/lang/Integer" ∧ Fld Z h x "java/lang/Integer" "value" "I" (.int (p1 / (4 : Int32)))
set_option maxRecDepth 65536 in
set_option maxHeartbeats 40000000 in
theorem rm1p (l : Launch) (Z : State) (a0 : Array Value) (hw : ∀ d ∈ tables_1, d.before a0 Z = true) (ws : List Jvm.Cond) (p1 : Int32) (wM : Addr) (aC : Addr) (clC : Cell) (h0 : Heap) (n0 : Nat) (Z0 : n0 ≤ h0.size) (O0 : Old Z n0 h0) (SM : Sta Z Z.heap "java/util/ImmutableCollections" "EMPTY" "Ljava/lang/Object;" (.ref wM)) (SH : Sta Z Z.heap "java/lang/Integer$IntegerCache" "high" "I" (.int (127 : Int32))) (SCa : Sta Z Z.heap "java/lang/Integer$IntegerCache" "cache" "[Ljava/lang/Integer;" (.ref aC)) (ArC : Arr Z Z.heap aC clC (.object "java/lang/Integer")) (hCA : ∀ j : Int32, ¬ (j < (-128 : Int32)) → ¬ ((127 : Int32) < j) → ∃ r : Addr, ¬ (j + (128 : Int32) < 0 ∨ clC.slots.size ≤ (j + (128 : Int32)).toNatClampNeg) ∧ clC.slots[(j + (128 : Int32)).toNatClampNeg]? = some (.ref r) ∧ Exa Z Z.heap r "java/lang/Integer" ∧ Fld Z Z.heap r "java/lang/Integer" "value" "I" (.int j)) (hz : ¬ (p1 = (0 : Int32))) :
    MetFree l (⟨"com/example/affix/affix/bench/StartupGraph", "fields", "(I)Ljava/util/List;"⟩ : MethodName) (head1 (Jvm.Cond.code (⟨"com/example/affix/affix/bench/StartupGraph", "fields", "(I)Ljava/util/List;"⟩ : MethodName) prog_19_method_3_code 1 (some (.object "java/util/List")) :: ws) ({ frames := 6, cells := 2, slots := 3, locals := 76 } : Room)) (fun a U => a = #[(.int p1)] ∧ Z.Warmed39 U.vm ∧ U.heap = h0) (fun _ _ _ _ _ => True) (fun _ U o U' => ∃ v L, o = .returned v ∧ Q_rm1p Z p1 wM aC clC h0 n0 v U'.heap L ∧ FrameEnd U o U' L ({ frames := 6, cells := 2, slots := 3, locals := 76 } : Room).cells ({ frames := 6, cells := 2, slots := 3, locals := 76 } : Room).slots) := by
  refine MetFree.of_bodySF (plainFor_of_name pn_com_example_affix_affix_bench_StartupGraph) hisR ?_
  intro p e s m args below meth c s₁ Bd hml0 hP hK
  obtain ⟨rfl, hZ, hh⟩ := hP
  have hx := Bd.exec
  have hby := Bd.bytes
  have hml : c.maxLocals = 1 := hml0
  have hown : s.vm.findClass "com/example/affix/affix/bench/StartupGraph" = some m.cls := findClass_of_methodNamed Bd.named
  have hnm := (name_of_methodNamed Bd.named Bd.method).1
  have X0 : Stand p l e ({ frames := 6, cells := 2, slots := 3, locals := 76 } : Room) s m #[(.int p1)] below meth c s₁ [] 0 0 := Stand.of_body Bd
  have e0 : s₁.heap = h0 := by rw [← hh, Bd.state]; rfl
  have N0 := Fr.nil n0
  have pre0 : ∀ t, Steps p.tables e below (s₁.setTop (mkF m 0 #[.val (.int p1)] [])) t → Steps p.tables e below (s₁.setTop (entryFrame m #[(.int p1)] 1)) t := fun t k => castTop (ef_1 m p1) k
  obtain ⟨S0, hS0⟩ : ∃ S, S = s₁.setTop (entryFrame m #[(.int p1)] 1) := ⟨_, rfl⟩
  rw [← hS0] at pre0 ⊢
  obtain ⟨_, _, ⟨T1, L1, k1, n1⟩, -, X1, ⟨Lc1, hQ1, l1, y1, z1⟩, st1⟩ := Jvm.LawKit.callS X0 hx (y := (⟨"java/lang/Integer", "valueOf", "(I)Ljava/lang/Integer;"⟩ : MethodName)) hown (mvT hZ (hw _ (List.mem_of_getElem? (i := 23) rfl))) (mvT hZ (hw _ (List.mem_of_getElem? (i := 24) rfl))) (mvT hZ (hw _ (List.mem_of_getElem? (i := 25) rfl))) (mvT hZ (hw _ (List.mem_of_getElem? (i := 26) rfl))) (by decide) (backOf (W := 0) (rmVal l Z a0 hw [] (p1 / (4 : Int32)) aC clC h0 n0 (Nat.le_trans Z0 (Keep.refl h0 []).1) O0 SH SCa ArC hCA) hZ (hw _ (List.mem_of_getElem? (i := 26) rfl)) (hw _ (List.mem_of_getElem? (i := 25) rfl)) (by decide) (by decide)) (g := (mkF m 13 #[.val (.int p1)] [(.int (p1 / (4 : Int32)))])) rfl (by rw [hml]; rfl) (argsL := [(.int (p1 / (4 : Int32)))]) (rest := []) (lenOf pd_5 rfl) rfl (by show 2 * 0 + _ ≤ _; exact Nat.le_of_eq rfl) (hb hby d1_13) (fun _ _ => ⟨rfl, e0, (by decide : 0 + 1 ≤ _), (by decide : 0 + 1 ≤ _)⟩)
  dsimp only [Pt.U, Pt.locs, Pt.cells, Pt.slots] at X1 l1 y1 z1 st1 hQ1
  subst l1 y1 z1
  obtain ⟨r1, rfl, N1q, K1, Eq1, Fq1⟩ := hQ1
  have N1 := Fr.app N0 N1q
  have K2 : Keep h0 T1.heap [] := (Keep.refl h0 []).trans K1 all0
  have f_3 := (O0.keep K1 all0)
  obtain ⟨_, _, ⟨T4, L4, k4, n4⟩, -, X4, ⟨Lc4, hQ4, l4, y4, z4⟩, st4⟩ := Jvm.LawKit.callS X1 hx (y := (⟨"java/util/List", "of", "(Ljava/lang/Object;)Ljava/util/List;"⟩ : MethodName)) hown (mvT hZ (hw _ (List.mem_of_getElem? (i := 30) rfl))) (mvT hZ (hw _ (List.mem_of_getElem? (i := 31) rfl))) (mvT hZ (hw _ (List.mem_of_getElem? (i := 7) rfl))) (mvT hZ (hw _ (List.mem_of_getElem? (i := 32) rfl))) (by decide) (backOf (W := 0) (rm5 l Z a0 hw [] r1 wM T1.heap n0 (Nat.le_trans Z0 K2.1) f_3 SM) hZ (hw _ (List.mem_of_getElem? (i := 32) rfl)) (hw _ (List.mem_of_getElem? (i := 7) rfl)) (by decide) (by decide)) (g := (mkF m 16 #[.val (.int p1)] [(.ref r1)])) rfl (by rw [hml]; rfl) (argsL := [(.ref r1)]) (rest := []) (lenOf pd_6 rfl) rfl (by show 2 * 0 + _ ≤ _; exact Nat.le_of_eq rfl) (hb hby d1_16) (fun _ _ => ⟨rfl, rfl, (by decide : 1 + 1 ≤ _), (by decide : 1 + 2 ≤ _)⟩)
  dsimp only [Pt.U, Pt.locs, Pt.cells, Pt.slots] at X4 l4 y4 z4 st4 hQ4
  subst l4 y4 z4
  obtain ⟨r4, rfl, N4q, K4, Eq4, F0q4, F1q4⟩ := hQ4
  have N4 := Fr.app N1 N4q
  have K5 : Keep h0 T4.heap [] := K2.trans K4 all0
  have f_6 := (Eq1.keep K4)
  have f_7 := (Fq1.keep K4 nin0)
  obtain ⟨fs, hr, hrun, hended, hW, hsame⟩ := X4.leave (v := some (.ref r4)) (fun h => by rw [Bd.returns] at h; cases h)
  refine ⟨_, _, pre0 _ ?_, hrun, hended, _, _, rfl, ?_, ⟨_, rfl⟩, hW, hsame.mono (by decide) (by decide)⟩
  · show Steps p.tables e below (s₁.setTop (mkF m 0 #[.val (.int p1)] [])) _
    refine XS.iloadN X0.here hx rfl (hb hby d1_0) rfl ?_
    show Steps p.tables e below (s₁.setTop (mkF m 1 #[.val (.int p1)] [(.int p1)])) _
    refine XS.ifYes X0.here hx rfl (pc0 := 1) (pc' := 10) rfl (hb hby d1_1) rfl ((if0 _ _).trans (feq hz).2) (by decide) (by decide) ?_
    show Steps p.tables e below (s₁.setTop (mkF m 10 #[.val (.int p1)] [])) _
    refine XS.iloadN X0.here hx rfl (hb hby d1_10) rfl ?_
    show Steps p.tables e below (s₁.setTop (mkF m 11 #[.val (.int p1)] [(.int p1)])) _
    refine XS.iconst X0.here hx rfl (hb hby d1_11) ?_
    show Steps p.tables e below (s₁.setTop (mkF m 12 #[.val (.int p1)] [(.int (4 : Int32)), (.int p1)])) _
    refine XS.idiv X0.here hx rfl (hb hby d1_12) rfl (by decide) ?_
    show Steps p.tables e below (s₁.setTop (mkF m 13 #[.val (.int p1)] [(.int (p1 / (4 : Int32)))])) _
    refine st1 _ ?_
    show Steps p.tables e below (T1.setTop (mkF m 16 #[.val (.int p1)] [(.ref r1)])) _
    refine st4 _ ?_
    show Steps p.tables e below (T4.setTop (mkF m 19 #[.val (.int p1)] [(.ref r4)])) _
    jvm_step X4.here [X4.here.top, hx, (hb hby d1_19), X4.method', Bd.returns, Value.isRef, FieldType.isReference]
    first | (intro acts; rw [hr _ acts rfl rfl rfl]) | rw [hr _ _ rfl rfl rfl]
    exact Steps.refl _
  · show Q_rm1p Z p1 wM aC clC h0 n0 _ T4.heap _
    exact ⟨r4, rfl, N4, K5, r1, Eq4, F0q4, F1q4, f_6, f_7⟩
theorem pn_com_example_affix_affix_bench_StartupGraphFieldsPinLaw : plainName "com/example/affix/affix/bench/StartupGraphFieldsPinLaw" = true := by first | (simp [plainName, overriddenIn]; done) | decide +kernel
theorem ef_0 (m : MethodId) (x0 : Int32) (x1 : Int32) : entryFrame m #[(.int x0), (.int x1)] maxLocals = mkF m 0 #[.val (.int x0), .val (.int x1), .unset, .unset, .unset, .unset, .unset, .unset, .unset] [] := by first | (simp [entryFrame, mkF, argsToLocals, Value.category, maxLocals]; done) | rfl
theorem pd_7 : parseMethodDescriptor "(I)Ljava/util/List;" = some ⟨[.int], some (.object "java/util/List")⟩ := by decide +kernel
theorem pd_8 : parseMethodDescriptor "()I" = some ⟨[], some .int⟩ := by decide +kernel
theorem pd_9 : parseMethodDescriptor "(I)Ljava/lang/Object;" = some ⟨[.int], some (.object "java/lang/Object")⟩ := by decide +kernel
def Q_rm0 (Z : State) (p1 : Int32) (p2 : Int32) (wE : Addr) (aA : Addr) (kA : ClassId) (wM : Addr) (aC : Addr) (clC : Cell) (h0 : Heap) (n0 : Nat) (v : Option Value) (h : Heap) (L : List Loc) : Prop := v = some (.int 1) ∧ Fr n0 L ∧ True
set_option maxRecDepth 65536 in
set_option maxHeartbeats 40000000 in
theorem rm0 (l : Launch) (Z : State) (a0 : Array Value) (hw : ∀ d ∈ tables_1, d.before a0 Z = true) (ws : List Jvm.Cond) (p1 : Int32) (p2 : Int32) (wE : Addr) (aA : Addr) (kA : ClassId) (wM : Addr) (aC : Addr) (clC : Cell) (h0 : Heap) (n0 : Nat) (Z0 : n0 ≤ h0.size) (O0 : Old Z n0 h0) (SE : Sta Z Z.heap "java/util/ImmutableCollections" "EMPTY_LIST" "Ljava/util/ImmutableCollections$ListN;" (.ref wE)) (EE : Exa Z Z.heap wE "java/util/ImmutableCollections$ListN") (FE : Fld Z Z.heap wE "java/util/ImmutableCollections$ListN" "elements" "[Ljava/lang/Object;" (.ref aA)) (VA : Arv Z Z.heap aA kA (.object "java/lang/Object") (0 : Int32) [] .null) (SM : Sta Z Z.heap "java/util/ImmutableCollections" "EMPTY" "Ljava/lang/Object;" (.ref wM)) (SH : Sta Z Z.heap "java/lang/Integer$IntegerCache" "high" "I" (.int (127 : Int32))) (SCa : Sta Z Z.heap "java/lang/Integer$IntegerCache" "cache" "[Ljava/lang/Integer;" (.ref aC)) (ArC : Arr Z Z.heap aC clC (.object "java/lang/Integer")) (hCA : ∀ j : Int32, ¬ (j < (-128 : Int32)) → ¬ ((127 : Int32) < j) → ∃ r : Addr, ¬ (j + (128 : Int32) < 0 ∨ clC.slots.size ≤ (j + (128 : Int32)).toNatClampNeg) ∧ clC.slots[(j + (128 : Int32)).toNatClampNeg]? = some (.ref r) ∧ Exa Z Z.heap r "java/lang/Integer" ∧ Fld Z Z.heap r "java/lang/Integer" "value" "I" (.int j)) :
    MetFree l x (head1 (Jvm.Cond.code x code maxLocals ret :: ws) room_1) (fun a U => a = #[(.int p1), (.int p2)] ∧ Z.Warmed39 U.vm ∧ U.heap = h0) (fun _ _ _ _ _ => True) (fun _ U o U' => ∃ v L, o = .returned v ∧ Q_rm0 Z p1 p2 wE aA kA wM aC clC h0 n0 v U'.heap L ∧ FrameEnd U o U' L room_1.cells room_1.slots) := by
  refine MetFree.of_bodySF (plainFor_of_name pn_com_example_affix_affix_bench_StartupGraphFieldsPinLaw) hisR ?_
  intro p e s m args below meth c s₁ Bd hml0 hP hK
  obtain ⟨rfl, hZ, hh⟩ := hP
  have hx := Bd.exec
  have hby := Bd.bytes
  have hml : c.maxLocals = 9 := hml0
  have hown : s.vm.findClass "com/example/affix/affix/bench/StartupGraphFieldsPinLaw" = some m.cls := findClass_of_methodNamed Bd.named
  have hnm := (name_of_methodNamed Bd.named Bd.method).1
  have X0 : Stand p l e room_1 s m #[(.int p1), (.int p2)] below meth c s₁ [] 0 0 := Stand.of_body Bd
  have e0 : s₁.heap = h0 := by rw [← hh, Bd.state]; rfl
  have N0 := Fr.nil n0
  have pre0 : ∀ t, Steps p.tables e below (s₁.setTop (mkF m 0 #[.val (.int p1), .val (.int p2), .unset, .unset, .unset, .unset, .unset, .unset, .unset] [])) t → Steps p.tables e below (s₁.setTop (entryFrame m #[(.int p1), (.int p2)] maxLocals)) t := fun t k => castTop (ef_0 m p1 p2) k
  obtain ⟨S0, hS0⟩ : ∃ S, S = s₁.setTop (entryFrame m #[(.int p1), (.int p2)] maxLocals) := ⟨_, rfl⟩
  rw [← hS0] at pre0 ⊢
  have pre1 : ∀ t, Steps p.tables e below (s₁.setTop (mkF m 3 #[.val (.int p1), .val (.int p2), .unset, .unset, .unset, .unset, .unset, .unset, .unset] [(.int (p2 &&& (3 : Int32)))])) t → Steps p.tables e below S0 t := by
    intro t k
    refine pre0 t ?_
    show Steps p.tables e below (s₁.setTop (mkF m 0 #[.val (.int p1), .val (.int p2), .unset, .unset, .unset, .unset, .unset, .unset, .unset] [])) _
    refine XS.iloadN X0.here hx rfl (hb hby at_0) rfl ?_
    show Steps p.tables e below (s₁.setTop (mkF m 1 #[.val (.int p1), .val (.int p2), .unset, .unset, .unset, .unset, .unset, .unset, .unset] [(.int p2)])) _
    refine XS.iconst X0.here hx rfl (hb hby at_1) ?_
    show Steps p.tables e below (s₁.setTop (mkF m 2 #[.val (.int p1), .val (.int p2), .unset, .unset, .unset, .unset, .unset, .unset, .unset] [(.int (3 : Int32)), (.int p2)])) _
    refine XS.iand X0.here hx rfl (hb hby at_2) rfl ?_
    exact k
  by_cases hc : (p2 &&& (3 : Int32)) = (0 : Int32)
  · obtain ⟨_, _, ⟨T2, L2, k2, n2⟩, -, X2, ⟨Lc2, hQ2, l2, y2, z2⟩, st2⟩ := Jvm.LawKit.callS X0 hx (y := (⟨"com/example/affix/affix/bench/StartupGraph", "fields", "(I)Ljava/util/List;"⟩ : MethodName)) hown (mvT hZ (hw _ (List.mem_of_getElem? (i := 1) rfl))) (mvT hZ (hw _ (List.mem_of_getElem? (i := 2) rfl))) (mvT hZ (hw _ (List.mem_of_getElem? (i := 3) rfl))) (mvT hZ (hw _ (List.mem_of_getElem? (i := 4) rfl))) (by decide) (backOf (W := 0) (rm1z l Z a0 hw [] (0 : Int32) wE h0 n0 (Nat.le_trans Z0 (Keep.refl h0 []).1) (SE.ext O0.2) rfl) hZ (hw _ (List.mem_of_getElem? (i := 4) rfl)) (hw _ (List.mem_of_getElem? (i := 3) rfl)) (by decide) (by decide)) (g := (mkF m 16 #[.val (.int p1), .val (.int p2), .val (.int (0 : Int32)), .unset, .unset, .unset, .unset, .unset, .unset] [(.int (0 : Int32))])) rfl (by rw [hml]; rfl) (argsL := [(.int (0 : Int32))]) (rest := []) (lenOf pd_7 rfl) rfl (by show 2 * 0 + _ ≤ _; exact Nat.le_of_eq rfl) (hb hby at_16) (fun _ _ => ⟨rfl, e0, (by decide : 0 + 2 ≤ _), (by decide : 0 + 3 ≤ _)⟩)
    dsimp only [Pt.U, Pt.locs, Pt.cells, Pt.slots] at X2 l2 y2 z2 st2 hQ2
    subst l2 y2 z2
    obtain ⟨rfl, N2q, eq2⟩ := hQ2
    have N2 := Fr.app N0 N2q
    have e2 : T2.heap = h0 := eq2
    obtain ⟨cq3, kq3, q3a, q3b, q3c⟩ := isOf hZ e2 (EE.ext O0.2)
    obtain ⟨_, _, ⟨T3, L3, k3, n3⟩, -, X3, ⟨Lc3, hQ3, l3, y3, z3⟩, st3⟩ := X2.interfaceBack hx (xi := (⟨"java/util/List", "size", "()I"⟩ : MethodName)) (y := (⟨"java/util/ImmutableCollections$ListN", "size", "()I"⟩ : MethodName)) hown (mvT hZ (hw _ (List.mem_of_getElem? (i := 11) rfl))) (mvT hZ (hw _ (List.mem_of_getElem? (i := 12) rfl))) (mvT hZ (hw _ (List.mem_of_getElem? (i := 13) rfl))) (mvT hZ (hw _ (List.mem_of_getElem? (i := 14) rfl))) (mvT hZ (hw _ (List.mem_of_getElem? (i := 15) rfl))) (mvT hZ (hw _ (List.mem_of_getElem? (i := 16) rfl))) (mvT hZ (hw _ (List.mem_of_getElem? (i := 17) rfl))) (mvT hZ (hw _ (List.mem_of_getElem? (i := 18) rfl))) (by decide) (backOf (W := 0) (rm3 l Z a0 hw [] wE aA kA h0 n0 (Nat.le_trans Z0 (Keep.refl h0 []).1) (FE.ext O0.2) (VA.ext O0.2)) hZ (hw _ (List.mem_of_getElem? (i := 20) rfl)) (hw _ (List.mem_of_getElem? (i := 19) rfl)) (by decide) (by decide)) q3a q3b q3c (g := (mkF m 25 #[.val (.int p1), .val (.int p2), .val (.int (0 : Int32)), .val (.ref wE), .unset, .unset, .unset, .unset, .unset] [(.ref wE)])) rfl (by rw [hml]; rfl) (Steps.refl _) (argsL := []) (rest := []) (lenOf pd_8 rfl) rfl (by show 2 * 0 + _ ≤ _; exact Nat.le_of_eq rfl) (hb hby at_25) (fun _ _ => ⟨rfl, e2, (by decide : 2 + 0 ≤ _), (by decide : 3 + 0 ≤ _)⟩)
    dsimp only [Pt.U, Pt.locs, Pt.cells, Pt.slots] at X3 l3 y3 z3 st3 hQ3
    subst l3 y3 z3
    obtain ⟨rfl, N3q, eq3⟩ := hQ3
    have N3 := Fr.app N2 N3q
    have e3 : T3.heap = h0 := eq3
    obtain ⟨fs, hr, hrun, hended, hW, hsame⟩ := X3.leave (v := some (.int (1 : Int32))) (fun h => by rw [Bd.returns] at h; cases h)
    refine ⟨_, _, pre1 _ ?_, hrun, hended, _, _, rfl, ?_, ⟨_, rfl⟩, hW, hsame.mono (by decide) (by decide)⟩
    · show Steps p.tables e below (s₁.setTop (mkF m 3 #[.val (.int p1), .val (.int p2), .unset, .unset, .unset, .unset, .unset, .unset, .unset] [(.int (p2 &&& (3 : Int32)))])) _
      refine XS.ifNo X0.here hx rfl (hb hby at_3) rfl ((if0 _ _).trans (teq hc).2) ?_
      show Steps p.tables e below (s₁.setTop (mkF m 6 #[.val (.int p1), .val (.int p2), .unset, .unset, .unset, .unset, .unset, .unset, .unset] [])) _
      refine XS.iconst X0.here hx rfl (hb hby at_6) ?_
      show Steps p.tables e below (s₁.setTop (mkF m 7 #[.val (.int p1), .val (.int p2), .unset, .unset, .unset, .unset, .unset, .unset, .unset] [(.int (0 : Int32))])) _
      refine XS.goto X0.here hx rfl (pc0 := 7) (pc' := 14) rfl (hb hby at_7) (by decide) (by decide) ?_
      show Steps p.tables e below (s₁.setTop (mkF m 14 #[.val (.int p1), .val (.int p2), .unset, .unset, .unset, .unset, .unset, .unset, .unset] [(.int (0 : Int32))])) _
      refine XS.istoreN X0.here hx rfl (hb hby at_14) rfl (l' := #[.val (.int p1), .val (.int p2), .val (.int (0 : Int32)), .unset, .unset, .unset, .unset, .unset, .unset]) rfl ?_
      show Steps p.tables e below (s₁.setTop (mkF m 15 #[.val (.int p1), .val (.int p2), .val (.int (0 : Int32)), .unset, .unset, .unset, .unset, .unset, .unset] [])) _
      refine XS.iloadN X0.here hx rfl (hb hby at_15) rfl ?_
      show Steps p.tables e below (s₁.setTop (mkF m 16 #[.val (.int p1), .val (.int p2), .val (.int (0 : Int32)), .unset, .unset, .unset, .unset, .unset, .unset] [(.int (0 : Int32))])) _
      refine st2 _ ?_
      show Steps p.tables e below (T2.setTop (mkF m 19 #[.val (.int p1), .val (.int p2), .val (.int (0 : Int32)), .unset, .unset, .unset, .unset, .unset, .unset] [(.ref wE)])) _
      refine XS.astoreN X2.here hx rfl (hb hby at_19) rfl rfl (l' := #[.val (.int p1), .val (.int p2), .val (.int (0 : Int32)), .val (.ref wE), .unset, .unset, .unset, .unset, .unset]) rfl ?_
      show Steps p.tables e below (T2.setTop (mkF m 20 #[.val (.int p1), .val (.int p2), .val (.int (0 : Int32)), .val (.ref wE), .unset, .unset, .unset, .unset, .unset] [])) _
      refine XS.iloadN X2.here hx rfl (hb hby at_20) rfl ?_
      show Steps p.tables e below (T2.setTop (mkF m 21 #[.val (.int p1), .val (.int p2), .val (.int (0 : Int32)), .val (.ref wE), .unset, .unset, .unset, .unset, .unset] [(.int (0 : Int32))])) _
      refine XS.ifNo X2.here hx rfl (hb hby at_21) rfl ((if0 _ _).trans (teq rfl).2) ?_
      show Steps p.tables e below (T2.setTop (mkF m 24 #[.val (.int p1), .val (.int p2), .val (.int (0 : Int32)), .val (.ref wE), .unset, .unset, .unset, .unset, .unset] [])) _
      refine XS.aloadN X2.here hx rfl (hb hby at_24) rfl rfl ?_
      show Steps p.tables e below (T2.setTop (mkF m 25 #[.val (.int p1), .val (.int p2), .val (.int (0 : Int32)), .val (.ref wE), .unset, .unset, .unset, .unset, .unset] [(.ref wE)])) _
      refine st3.trans ?_
      show Steps p.tables e below (T3.setTop (mkF m 30 #[.val (.int p1), .val (.int p2), .val (.int (0 : Int32)), .val (.ref wE), .unset, .unset, .unset, .unset, .unset] [(.int (0 : Int32))])) _
      refine XS.ifNo X3.here hx rfl (hb hby at_30) rfl ((if0 _ _).trans (teq rfl).2) ?_
      show Steps p.tables e below (T3.setTop (mkF m 33 #[.val (.int p1), .val (.int p2), .val (.int (0 : Int32)), .val (.ref wE), .unset, .unset, .unset, .unset, .unset] [])) _
      refine XS.iconst X3.here hx rfl (hb hby at_33) ?_
      show Steps p.tables e below (T3.setTop (mkF m 34 #[.val (.int p1), .val (.int p2), .val (.int (0 : Int32)), .val (.ref wE), .unset, .unset, .unset, .unset, .unset] [(.int (1 : Int32))])) _
      refine XS.goto X3.here hx rfl (pc0 := 34) (pc' := 38) rfl (hb hby at_34) (by decide) (by decide) ?_
      show Steps p.tables e below (T3.setTop (mkF m 38 #[.val (.int p1), .val (.int p2), .val (.int (0 : Int32)), .val (.ref wE), .unset, .unset, .unset, .unset, .unset] [(.int (1 : Int32))])) _
      exact retN X3 hx (t := .boolean) Bd.returns (by simp) (hb hby at_38) hr
    · show Q_rm0 Z p1 p2 wE aA kA wM aC clC h0 n0 _ T3.heap _
      rw [e3]
      exact ⟨rfl, N3, trivial⟩
  · have pre4 : ∀ t, Steps p.tables e below (s₁.setTop (mkF m 16 #[.val (.int p1), .val (.int p2), .val (.int (p1 &&& (2147483647 : Int32))), .unset, .unset, .unset, .unset, .unset, .unset] [(.int (p1 &&& (2147483647 : Int32)))])) t → Steps p.tables e below S0 t := by
      intro t k
      refine pre1 t ?_
      show Steps p.tables e below (s₁.setTop (mkF m 3 #[.val (.int p1), .val (.int p2), .unset, .unset, .unset, .unset, .unset, .unset, .unset] [(.int (p2 &&& (3 : Int32)))])) _
      refine XS.ifYes X0.here hx rfl (pc0 := 3) (pc' := 10) rfl (hb hby at_3) rfl ((if0 _ _).trans (feq hc).2) (by decide) (by decide) ?_
      show Steps p.tables e below (s₁.setTop (mkF m 10 #[.val (.int p1), .val (.int p2), .unset, .unset, .unset, .unset, .unset, .unset, .unset] [])) _
      refine XS.iloadN X0.here hx rfl (hb hby at_10) rfl ?_
      show Steps p.tables e below (s₁.setTop (mkF m 11 #[.val (.int p1), .val (.int p2), .unset, .unset, .unset, .unset, .unset, .unset, .unset] [(.int p1)])) _
      refine X0.ldcInt hx hown (mvT hZ (hw _ (List.mem_of_getElem? (i := 0) rfl))) (g := (mkF m 11 #[.val (.int p1), .val (.int p2), .unset, .unset, .unset, .unset, .unset, .unset, .unset] [(.int p1)])) rfl (hb hby at_11) _ ?_
      show Steps p.tables e below (s₁.setTop (mkF m 13 #[.val (.int p1), .val (.int p2), .unset, .unset, .unset, .unset, .unset, .unset, .unset] [(.int (2147483647 : Int32)), (.int p1)])) _
      refine XS.iand X0.here hx rfl (hb hby at_13) rfl ?_
      show Steps p.tables e below (s₁.setTop (mkF m 14 #[.val (.int p1), .val (.int p2), .unset, .unset, .unset, .unset, .unset, .unset, .unset] [(.int (p1 &&& (2147483647 : Int32)))])) _
      refine XS.istoreN X0.here hx rfl (hb hby at_14) rfl (l' := #[.val (.int p1), .val (.int p2), .val (.int (p1 &&& (2147483647 : Int32))), .unset, .unset, .unset, .unset, .unset, .unset]) rfl ?_
      show Steps p.tables e below (s₁.setTop (mkF m 15 #[.val (.int p1), .val (.int p2), .val (.int (p1 &&& (2147483647 : Int32))), .unset, .unset, .unset, .unset, .unset, .unset] [])) _
      refine XS.iloadN X0.here hx rfl (hb hby at_15) rfl ?_
      exact k
    by_cases hz : (p1 &&& (2147483647 : Int32)) = (0 : Int32)
    · obtain ⟨_, _, ⟨T5, L5, k5, n5⟩, -, X5, ⟨Lc5, hQ5, l5, y5, z5⟩, st5⟩ := Jvm.LawKit.callS X0 hx (y := (⟨"com/example/affix/affix/bench/StartupGraph", "fields", "(I)Ljava/util/List;"⟩ : MethodName)) hown (mvT hZ (hw _ (List.mem_of_getElem? (i := 1) rfl))) (mvT hZ (hw _ (List.mem_of_getElem? (i := 2) rfl))) (mvT hZ (hw _ (List.mem_of_getElem? (i := 3) rfl))) (mvT hZ (hw _ (List.mem_of_getElem? (i := 4) rfl))) (by decide) (backOf (W := 0) (rm1z l Z a0 hw [] (p1 &&& (2147483647 : Int32)) wE h0 n0 (Nat.le_trans Z0 (Keep.refl h0 []).1) (SE.ext O0.2) hz) hZ (hw _ (List.mem_of_getElem? (i := 4) rfl)) (hw _ (List.mem_of_getElem? (i := 3) rfl)) (by decide) (by decide)) (g := (mkF m 16 #[.val (.int p1), .val (.int p2), .val (.int (p1 &&& (2147483647 : Int32))), .unset, .unset, .unset, .unset, .unset, .unset] [(.int (p1 &&& (2147483647 : Int32)))])) rfl (by rw [hml]; rfl) (argsL := [(.int (p1 &&& (2147483647 : Int32)))]) (rest := []) (lenOf pd_7 rfl) rfl (by show 2 * 0 + _ ≤ _; exact Nat.le_of_eq rfl) (hb hby at_16) (fun _ _ => ⟨rfl, e0, (by decide : 0 + 2 ≤ _), (by decide : 0 + 3 ≤ _)⟩)
      dsimp only [Pt.U, Pt.locs, Pt.cells, Pt.slots] at X5 l5 y5 z5 st5 hQ5
      subst l5 y5 z5
      obtain ⟨rfl, N5q, eq5⟩ := hQ5
      have N5 := Fr.app N0 N5q
      have e5 : T5.heap = h0 := eq5
      obtain ⟨cq6, kq6, q6a, q6b, q6c⟩ := isOf hZ e5 (EE.ext O0.2)
      obtain ⟨_, _, ⟨T6, L6, k6, n6⟩, -, X6, ⟨Lc6, hQ6, l6, y6, z6⟩, st6⟩ := X5.interfaceBack hx (xi := (⟨"java/util/List", "size", "()I"⟩ : MethodName)) (y := (⟨"java/util/ImmutableCollections$ListN", "size", "()I"⟩ : MethodName)) hown (mvT hZ (hw _ (List.mem_of_getElem? (i := 11) rfl))) (mvT hZ (hw _ (List.mem_of_getElem? (i := 12) rfl))) (mvT hZ (hw _ (List.mem_of_getElem? (i := 13) rfl))) (mvT hZ (hw _ (List.mem_of_getElem? (i := 14) rfl))) (mvT hZ (hw _ (List.mem_of_getElem? (i := 15) rfl))) (mvT hZ (hw _ (List.mem_of_getElem? (i := 16) rfl))) (mvT hZ (hw _ (List.mem_of_getElem? (i := 17) rfl))) (mvT hZ (hw _ (List.mem_of_getElem? (i := 18) rfl))) (by decide) (backOf (W := 0) (rm3 l Z a0 hw [] wE aA kA h0 n0 (Nat.le_trans Z0 (Keep.refl h0 []).1) (FE.ext O0.2) (VA.ext O0.2)) hZ (hw _ (List.mem_of_getElem? (i := 20) rfl)) (hw _ (List.mem_of_getElem? (i := 19) rfl)) (by decide) (by decide)) q6a q6b q6c (g := (mkF m 25 #[.val (.int p1), .val (.int p2), .val (.int (p1 &&& (2147483647 : Int32))), .val (.ref wE), .unset, .unset, .unset, .unset, .unset] [(.ref wE)])) rfl (by rw [hml]; rfl) (Steps.refl _) (argsL := []) (rest := []) (lenOf pd_8 rfl) rfl (by show 2 * 0 + _ ≤ _; exact Nat.le_of_eq rfl) (hb hby at_25) (fun _ _ => ⟨rfl, e5, (by decide : 2 + 0 ≤ _), (by decide : 3 + 0 ≤ _)⟩)
      dsimp only [Pt.U, Pt.locs, Pt.cells, Pt.slots] at X6 l6 y6 z6 st6 hQ6
      subst l6 y6 z6
      obtain ⟨rfl, N6q, eq6⟩ := hQ6
      have N6 := Fr.app N5 N6q
      have e6 : T6.heap = h0 := eq6
      obtain ⟨fs, hr, hrun, hended, hW, hsame⟩ := X6.leave (v := some (.int (1 : Int32))) (fun h => by rw [Bd.returns] at h; cases h)
      refine ⟨_, _, pre4 _ ?_, hrun, hended, _, _, rfl, ?_, ⟨_, rfl⟩, hW, hsame.mono (by decide) (by decide)⟩
      · show Steps p.tables e below (s₁.setTop (mkF m 16 #[.val (.int p1), .val (.int p2), .val (.int (p1 &&& (2147483647 : Int32))), .unset, .unset, .unset, .unset, .unset, .unset] [(.int (p1 &&& (2147483647 : Int32)))])) _
        refine st5 _ ?_
        show Steps p.tables e below (T5.setTop (mkF m 19 #[.val (.int p1), .val (.int p2), .val (.int (p1 &&& (2147483647 : Int32))), .unset, .unset, .unset, .unset, .unset, .unset] [(.ref wE)])) _
        refine XS.astoreN X5.here hx rfl (hb hby at_19) rfl rfl (l' := #[.val (.int p1), .val (.int p2), .val (.int (p1 &&& (2147483647 : Int32))), .val (.ref wE), .unset, .unset, .unset, .unset, .unset]) rfl ?_
        show Steps p.tables e below (T5.setTop (mkF m 20 #[.val (.int p1), .val (.int p2), .val (.int (p1 &&& (2147483647 : Int32))), .val (.ref wE), .unset, .unset, .unset, .unset, .unset] [])) _
        refine XS.iloadN X5.here hx rfl (hb hby at_20) rfl ?_
        show Steps p.tables e below (T5.setTop (mkF m 21 #[.val (.int p1), .val (.int p2), .val (.int (p1 &&& (2147483647 : Int32))), .val (.ref wE), .unset, .unset, .unset, .unset, .unset] [(.int (p1 &&& (2147483647 : Int32)))])) _
        refine XS.ifNo X5.here hx rfl (hb hby at_21) rfl ((if0 _ _).trans (teq hz).2) ?_
        show Steps p.tables e below (T5.setTop (mkF m 24 #[.val (.int p1), .val (.int p2), .val (.int (p1 &&& (2147483647 : Int32))), .val (.ref wE), .unset, .unset, .unset, .unset, .unset] [])) _
        refine XS.aloadN X5.here hx rfl (hb hby at_24) rfl rfl ?_
        show Steps p.tables e below (T5.setTop (mkF m 25 #[.val (.int p1), .val (.int p2), .val (.int (p1 &&& (2147483647 : Int32))), .val (.ref wE), .unset, .unset, .unset, .unset, .unset] [(.ref wE)])) _
        refine st6.trans ?_
        show Steps p.tables e below (T6.setTop (mkF m 30 #[.val (.int p1), .val (.int p2), .val (.int (p1 &&& (2147483647 : Int32))), .val (.ref wE), .unset, .unset, .unset, .unset, .unset] [(.int (0 : Int32))])) _
        refine XS.ifNo X6.here hx rfl (hb hby at_30) rfl ((if0 _ _).trans (teq rfl).2) ?_
        show Steps p.tables e below (T6.setTop (mkF m 33 #[.val (.int p1), .val (.int p2), .val (.int (p1 &&& (2147483647 : Int32))), .val (.ref wE), .unset, .unset, .unset, .unset, .unset] [])) _
        refine XS.iconst X6.here hx rfl (hb hby at_33) ?_
        show Steps p.tables e below (T6.setTop (mkF m 34 #[.val (.int p1), .val (.int p2), .val (.int (p1 &&& (2147483647 : Int32))), .val (.ref wE), .unset, .unset, .unset, .unset, .unset] [(.int (1 : Int32))])) _
        refine XS.goto X6.here hx rfl (pc0 := 34) (pc' := 38) rfl (hb hby at_34) (by decide) (by decide) ?_
        show Steps p.tables e below (T6.setTop (mkF m 38 #[.val (.int p1), .val (.int p2), .val (.int (p1 &&& (2147483647 : Int32))), .val (.ref wE), .unset, .unset, .unset, .unset, .unset] [(.int (1 : Int32))])) _
        exact retN X6 hx (t := .boolean) Bd.returns (by simp) (hb hby at_38) hr
      · show Q_rm0 Z p1 p2 wE aA kA wM aC clC h0 n0 _ T6.heap _
        rw [e6]
        exact ⟨rfl, N6, trivial⟩
    · obtain ⟨_, _, ⟨T7, L7, k7, n7⟩, -, X7, ⟨Lc7, hQ7, l7, y7, z7⟩, st7⟩ := Jvm.LawKit.callS X0 hx (y := (⟨"com/example/affix/affix/bench/StartupGraph", "fields", "(I)Ljava/util/List;"⟩ : MethodName)) hown (mvT hZ (hw _ (List.mem_of_getElem? (i := 1) rfl))) (mvT hZ (hw _ (List.mem_of_getElem? (i := 2) rfl))) (mvT hZ (hw _ (List.mem_of_getElem? (i := 3) rfl))) (mvT hZ (hw _ (List.mem_of_getElem? (i := 4) rfl))) (by decide) (backOf (W := 0) (rm1p l Z a0 hw [] (p1 &&& (2147483647 : Int32)) wM aC clC h0 n0 (Nat.le_trans Z0 (Keep.refl h0 []).1) O0 SM SH SCa ArC hCA hz) hZ (hw _ (List.mem_of_getElem? (i := 4) rfl)) (hw _ (List.mem_of_getElem? (i := 3) rfl)) (by decide) (by decide)) (g := (mkF m 16 #[.val (.int p1), .val (.int p2), .val (.int (p1 &&& (2147483647 : Int32))), .unset, .unset, .unset, .unset, .unset, .unset] [(.int (p1 &&& (2147483647 : Int32)))])) rfl (by rw [hml]; rfl) (argsL := [(.int (p1 &&& (2147483647 : Int32)))]) (rest := []) (lenOf pd_7 rfl) rfl (by show 2 * 0 + _ ≤ _; exact Nat.le_of_eq rfl) (hb hby at_16) (fun _ _ => ⟨rfl, e0, (by decide : 0 + 2 ≤ _), (by decide : 0 + 3 ≤ _)⟩)
      dsimp only [Pt.U, Pt.locs, Pt.cells, Pt.slots] at X7 l7 y7 z7 st7 hQ7
      subst l7 y7 z7
      obtain ⟨r7, rfl, N7q, K7, x7, Eq7, F0q7, F1q7, Ex7, Fx7⟩ := hQ7
      have N7 := Fr.app N0 N7q
      have K8 : Keep h0 T7.heap [] := (Keep.refl h0 []).trans K7 all0
      have f_9 := (O0.keep K7 all0)
      obtain ⟨cq10, kq10, q10a, q10b, q10c⟩ := isOf hZ rfl Eq7
      obtain ⟨_, _, ⟨T10, L10, k10, n10⟩, -, X10, ⟨Lc10, hQ10, l10, y10, z10⟩, st10⟩ := X7.interfaceBack hx (xi := (⟨"java/util/List", "size", "()I"⟩ : MethodName)) (y := (⟨"java/util/ImmutableCollections$List12", "size", "()I"⟩ : MethodName)) hown (mvT hZ (hw _ (List.mem_of_getElem? (i := 11) rfl))) (mvT hZ (hw _ (List.mem_of_getElem? (i := 12) rfl))) (mvT hZ (hw _ (List.mem_of_getElem? (i := 13) rfl))) (mvT hZ (hw _ (List.mem_of_getElem? (i := 70) rfl))) (mvT hZ (hw _ (List.mem_of_getElem? (i := 71) rfl))) (mvT hZ (hw _ (List.mem_of_getElem? (i := 72) rfl))) (mvT hZ (hw _ (List.mem_of_getElem? (i := 73) rfl))) (mvT hZ (hw _ (List.mem_of_getElem? (i := 74) rfl))) (by decide) (backOf (W := 0) (rm12 l Z a0 hw [] r7 wM T7.heap n0 (Nat.le_trans Z0 K8.1) (SM.ext f_9.2) F1q7) hZ (hw _ (List.mem_of_getElem? (i := 75) rfl)) (hw _ (List.mem_of_getElem? (i := 35) rfl)) (by decide) (by decide)) q10a q10b q10c (g := (mkF m 40 #[.val (.int p1), .val (.int p2), .val (.int (p1 &&& (2147483647 : Int32))), .val (.ref r7), .unset, .unset, .unset, .unset, .unset] [(.ref r7)])) rfl (by rw [hml]; rfl) (Steps.refl _) (argsL := []) (rest := []) (lenOf pd_8 rfl) rfl (by show 2 * 0 + _ ≤ _; exact Nat.le_of_eq rfl) (hb hby at_40) (fun _ _ => ⟨rfl, rfl, (by decide : 2 + 0 ≤ _), (by decide : 3 + 0 ≤ _)⟩)
      dsimp only [Pt.U, Pt.locs, Pt.cells, Pt.slots] at X10 l10 y10 z10 st10 hQ10
      subst l10 y10 z10
      obtain ⟨rfl, N10q, eq10⟩ := hQ10
      have N10 := Fr.app N7 N10q
      have e10 : T10.heap = T7.heap := eq10
      obtain ⟨cq11, kq11, q11a, q11b, q11c⟩ := isOf hZ e10 Eq7
      obtain ⟨_, _, ⟨T11, L11, k11, n11⟩, -, X11, ⟨Lc11, hQ11, l11, y11, z11⟩, st11⟩ := X10.interfaceBack hx (xi := (⟨"java/util/List", "get", "(I)Ljava/lang/Object;"⟩ : MethodName)) (y := (⟨"java/util/ImmutableCollections$List12", "get", "(I)Ljava/lang/Object;"⟩ : MethodName)) hown (mvT hZ (hw _ (List.mem_of_getElem? (i := 76) rfl))) (mvT hZ (hw _ (List.mem_of_getElem? (i := 77) rfl))) (mvT hZ (hw _ (List.mem_of_getElem? (i := 78) rfl))) (mvT hZ (hw _ (List.mem_of_getElem? (i := 79) rfl))) (mvT hZ (hw _ (List.mem_of_getElem? (i := 80) rfl))) (mvT hZ (hw _ (List.mem_of_getElem? (i := 81) rfl))) (mvT hZ (hw _ (List.mem_of_getElem? (i := 82) rfl))) (mvT hZ (hw _ (List.mem_of_getElem? (i := 74) rfl))) (by decide) (backOf (W := 0) (rm13 l Z a0 hw [] r7 x7 T7.heap n0 (Nat.le_trans Z0 K8.1) F0q7) hZ (hw _ (List.mem_of_getElem? (i := 83) rfl)) (hw _ (List.mem_of_getElem? (i := 35) rfl)) (by decide) (by decide)) q11a q11b q11c (g := (mkF m 53 #[.val (.int p1), .val (.int p2), .val (.int (p1 &&& (2147483647 : Int32))), .val (.ref r7), .unset, .unset, .unset, .unset, .unset] [(.int (0 : Int32)), (.ref r7)])) rfl (by rw [hml]; rfl) (Steps.refl _) (argsL := [(.int (0 : Int32))]) (rest := []) (lenOf pd_9 rfl) rfl (by show 2 * 0 + _ ≤ _; exact Nat.le_of_eq rfl) (hb hby at_53) (fun _ _ => ⟨rfl, e10, (by decide : 2 + 0 ≤ _), (by decide : 3 + 0 ≤ _)⟩)
      dsimp only [Pt.U, Pt.locs, Pt.cells, Pt.slots] at X11 l11 y11 z11 st11 hQ11
      subst l11 y11 z11
      obtain ⟨rfl, N11q, eq11⟩ := hQ11
      have N11 := Fr.app N10 N11q
      have e11 : T11.heap = T7.heap := eq11
      obtain ⟨T12, X12, e12, st12⟩ := castY X11 hx hZ hown (hw _ (List.mem_of_getElem? (i := 84) rfl)) e11 (Ins.self Ex7) (g := (mkF m 58 #[.val (.int p1), .val (.int p2), .val (.int (p1 &&& (2147483647 : Int32))), .val (.ref r7), .unset, .unset, .unset, .unset, .unset] [(.ref x7)])) rfl rfl (hb hby at_58)
      obtain ⟨cq13, kq13, q13a, q13b, q13c⟩ := isOf hZ e12 Ex7
      obtain ⟨_, _, ⟨T13, L13, k13, n13⟩, -, X13, ⟨Lc13, hQ13, l13, y13, z13⟩, st13⟩ := X12.virtualBack hx (y := (⟨"java/lang/Integer", "intValue", "()I"⟩ : MethodName)) (z := (⟨"java/lang/Integer", "intValue", "()I"⟩ : MethodName)) hown (mvT hZ (hw _ (List.mem_of_getElem? (i := 86) rfl))) (mvT hZ (hw _ (List.mem_of_getElem? (i := 87) rfl))) (notFace_of_selects (args := #[]) (mvT hZ (hw _ (List.mem_of_getElem? (i := 89) rfl)))) (mvT hZ (hw _ (List.mem_of_getElem? (i := 89) rfl))) (mvT hZ (hw _ (List.mem_of_getElem? (i := 88) rfl))) (by decide) (backOf (W := 0) (rm14 l Z a0 hw [] x7 ((p1 &&& (2147483647 : Int32)) / (4 : Int32)) T7.heap n0 (Nat.le_trans Z0 K8.1) Fx7) hZ (hw _ (List.mem_of_getElem? (i := 90) rfl)) (hw _ (List.mem_of_getElem? (i := 25) rfl)) (by decide) (by decide)) q13a q13c (g := (mkF m 65 #[.val (.int p1), .val (.int p2), .val (.int (p1 &&& (2147483647 : Int32))), .val (.ref r7), .val (.ref x7), .unset, .unset, .unset, .unset] [(.ref x7)])) rfl (by rw [hml]; rfl) (Steps.refl _) (argsL := []) (rest := []) (lenOf pd_8 rfl) rfl (by show 2 * 0 + _ ≤ _; exact Nat.le_of_eq rfl) (hb hby at_65) (fun _ _ => ⟨rfl, e12, (by decide : 2 + 0 ≤ _), (by decide : 3 + 0 ≤ _)⟩)
      dsimp only [Pt.U, Pt.locs, Pt.cells, Pt.slots] at X13 l13 y13 z13 st13 hQ13
      subst l13 y13 z13
      obtain ⟨rfl, N13q, eq13⟩ := hQ13
      have N13 := Fr.app N11 N13q
      have e13 : T13.heap = T7.heap := eq13
      have pre14 : ∀ t, Steps p.tables e below (T13.setTop (mkF m 95 #[.val (.int p1), .val (.int p2), .val (.int (p1 &&& (2147483647 : Int32))), .val (.ref r7), .val (.ref x7), .val (.long (((p1 &&& (2147483647 : Int32)) / (4 : Int32)).toInt64)), .second, .val (.long ((p1 &&& (2147483647 : Int32)).toInt64)), .second] [(.long ((4 : Int64) * (((p1 &&& (2147483647 : Int32)) / (4 : Int32)).toInt64))), (.long ((p1 &&& (2147483647 : Int32)).toInt64))])) t → Steps p.tables e below S0 t := by
        intro t k
        refine pre4 t ?_
        show Steps p.tables e below (s₁.setTop (mkF m 16 #[.val (.int p1), .val (.int p2), .val (.int (p1 &&& (2147483647 : Int32))), .unset, .unset, .unset, .unset, .unset, .unset] [(.int (p1 &&& (2147483647 : Int32)))])) _
        refine st7 _ ?_
        show Steps p.tables e below (T7.setTop (mkF m 19 #[.val (.int p1), .val (.int p2), .val (.int (p1 &&& (2147483647 : Int32))), .unset, .unset, .unset, .unset, .unset, .unset] [(.ref r7)])) _
        refine XS.astoreN X7.here hx rfl (hb hby at_19) rfl rfl (l' := #[.val (.int p1), .val (.int p2), .val (.int (p1 &&& (2147483647 : Int32))), .val (.ref r7), .unset, .unset, .unset, .unset, .unset]) rfl ?_
        show Steps p.tables e below (T7.setTop (mkF m 20 #[.val (.int p1), .val (.int p2), .val (.int (p1 &&& (2147483647 : Int32))), .val (.ref r7), .unset, .unset, .unset, .unset, .unset] [])) _
        refine XS.iloadN X7.here hx rfl (hb hby at_20) rfl ?_
        show Steps p.tables e below (T7.setTop (mkF m 21 #[.val (.int p1), .val (.int p2), .val (.int (p1 &&& (2147483647 : Int32))), .val (.ref r7), .unset, .unset, .unset, .unset, .unset] [(.int (p1 &&& (2147483647 : Int32)))])) _
        refine XS.ifYes X7.here hx rfl (pc0 := 21) (pc' := 39) rfl (hb hby at_21) rfl ((if0 _ _).trans (feq hz).2) (by decide) (by decide) ?_
        show Steps p.tables e below (T7.setTop (mkF m 39 #[.val (.int p1), .val (.int p2), .val (.int (p1 &&& (2147483647 : Int32))), .val (.ref r7), .unset, .unset, .unset, .unset, .unset] [])) _
        refine XS.aloadN X7.here hx rfl (hb hby at_39) rfl rfl ?_
        show Steps p.tables e below (T7.setTop (mkF m 40 #[.val (.int p1), .val (.int p2), .val (.int (p1 &&& (2147483647 : Int32))), .val (.ref r7), .unset, .unset, .unset, .unset, .unset] [(.ref r7)])) _
        refine st10.trans ?_
        show Steps p.tables e below (T10.setTop (mkF m 45 #[.val (.int p1), .val (.int p2), .val (.int (p1 &&& (2147483647 : Int32))), .val (.ref r7), .unset, .unset, .unset, .unset, .unset] [(.int (1 : Int32))])) _
        refine XS.iconst X10.here hx rfl (hb hby at_45) ?_
        show Steps p.tables e below (T10.setTop (mkF m 46 #[.val (.int p1), .val (.int p2), .val (.int (p1 &&& (2147483647 : Int32))), .val (.ref r7), .unset, .unset, .unset, .unset, .unset] [(.int (1 : Int32)), (.int (1 : Int32))])) _
        refine XS.icmpYes X10.here hx rfl (pc0 := 46) (pc' := 51) rfl (hb hby at_46) rfl (teq rfl).1 (by decide) (by decide) ?_
        show Steps p.tables e below (T10.setTop (mkF m 51 #[.val (.int p1), .val (.int p2), .val (.int (p1 &&& (2147483647 : Int32))), .val (.ref r7), .unset, .unset, .unset, .unset, .unset] [])) _
        refine XS.aloadN X10.here hx rfl (hb hby at_51) rfl rfl ?_
        show Steps p.tables e below (T10.setTop (mkF m 52 #[.val (.int p1), .val (.int p2), .val (.int (p1 &&& (2147483647 : Int32))), .val (.ref r7), .unset, .unset, .unset, .unset, .unset] [(.ref r7)])) _
        refine XS.iconst X10.here hx rfl (hb hby at_52) ?_
        show Steps p.tables e below (T10.setTop (mkF m 53 #[.val (.int p1), .val (.int p2), .val (.int (p1 &&& (2147483647 : Int32))), .val (.ref r7), .unset, .unset, .unset, .unset, .unset] [(.int (0 : Int32)), (.ref r7)])) _
        refine st11.trans ?_
        show Steps p.tables e below (T11.setTop (mkF m 58 #[.val (.int p1), .val (.int p2), .val (.int (p1 &&& (2147483647 : Int32))), .val (.ref r7), .unset, .unset, .unset, .unset, .unset] [(.ref x7)])) _
        refine st12 _ ?_
        show Steps p.tables e below (T12.setTop (mkF m 61 #[.val (.int p1), .val (.int p2), .val (.int (p1 &&& (2147483647 : Int32))), .val (.ref r7), .unset, .unset, .unset, .unset, .unset] [(.ref x7)])) _
        refine XS.astore X12.here hx rfl (hb hby at_61) rfl rfl (l' := #[.val (.int p1), .val (.int p2), .val (.int (p1 &&& (2147483647 : Int32))), .val (.ref r7), .val (.ref x7), .unset, .unset, .unset, .unset]) rfl ?_
        show Steps p.tables e below (T12.setTop (mkF m 63 #[.val (.int p1), .val (.int p2), .val (.int (p1 &&& (2147483647 : Int32))), .val (.ref r7), .val (.ref x7), .unset, .unset, .unset, .unset] [])) _
        refine XS.aload X12.here hx rfl (hb hby at_63) rfl rfl ?_
        show Steps p.tables e below (T12.setTop (mkF m 65 #[.val (.int p1), .val (.int p2), .val (.int (p1 &&& (2147483647 : Int32))), .val (.ref r7), .val (.ref x7), .unset, .unset, .unset, .unset] [(.ref x7)])) _
        refine st13.trans ?_
        show Steps p.tables e below (T13.setTop (mkF m 68 #[.val (.int p1), .val (.int p2), .val (.int (p1 &&& (2147483647 : Int32))), .val (.ref r7), .val (.ref x7), .unset, .unset, .unset, .unset] [(.int ((p1 &&& (2147483647 : Int32)) / (4 : Int32)))])) _
        refine XS.i2l X13.here hx rfl (hb hby at_68) rfl ?_
        show Steps p.tables e below (T13.setTop (mkF m 69 #[.val (.int p1), .val (.int p2), .val (.int (p1 &&& (2147483647 : Int32))), .val (.ref r7), .val (.ref x7), .unset, .unset, .unset, .unset] [(.long (((p1 &&& (2147483647 : Int32)) / (4 : Int32)).toInt64))])) _
        refine XS.lstore X13.here hx rfl (hb hby at_69) rfl (l' := #[.val (.int p1), .val (.int p2), .val (.int (p1 &&& (2147483647 : Int32))), .val (.ref r7), .val (.ref x7), .val (.long (((p1 &&& (2147483647 : Int32)) / (4 : Int32)).toInt64)), .second, .unset, .unset]) rfl ?_
        show Steps p.tables e below (T13.setTop (mkF m 71 #[.val (.int p1), .val (.int p2), .val (.int (p1 &&& (2147483647 : Int32))), .val (.ref r7), .val (.ref x7), .val (.long (((p1 &&& (2147483647 : Int32)) / (4 : Int32)).toInt64)), .second, .unset, .unset] [])) _
        refine XS.iloadN X13.here hx rfl (hb hby at_71) rfl ?_
        show Steps p.tables e below (T13.setTop (mkF m 72 #[.val (.int p1), .val (.int p2), .val (.int (p1 &&& (2147483647 : Int32))), .val (.ref r7), .val (.ref x7), .val (.long (((p1 &&& (2147483647 : Int32)) / (4 : Int32)).toInt64)), .second, .unset, .unset] [(.int (p1 &&& (2147483647 : Int32)))])) _
        refine XS.i2l X13.here hx rfl (hb hby at_72) rfl ?_
        show Steps p.tables e below (T13.setTop (mkF m 73 #[.val (.int p1), .val (.int p2), .val (.int (p1 &&& (2147483647 : Int32))), .val (.ref r7), .val (.ref x7), .val (.long (((p1 &&& (2147483647 : Int32)) / (4 : Int32)).toInt64)), .second, .unset, .unset] [(.long ((p1 &&& (2147483647 : Int32)).toInt64))])) _
        refine XS.lstore X13.here hx rfl (hb hby at_73) rfl (l' := #[.val (.int p1), .val (.int p2), .val (.int (p1 &&& (2147483647 : Int32))), .val (.ref r7), .val (.ref x7), .val (.long (((p1 &&& (2147483647 : Int32)) / (4 : Int32)).toInt64)), .second, .val (.long ((p1 &&& (2147483647 : Int32)).toInt64)), .second]) rfl ?_
        show Steps p.tables e below (T13.setTop (mkF m 75 #[.val (.int p1), .val (.int p2), .val (.int (p1 &&& (2147483647 : Int32))), .val (.ref r7), .val (.ref x7), .val (.long (((p1 &&& (2147483647 : Int32)) / (4 : Int32)).toInt64)), .second, .val (.long ((p1 &&& (2147483647 : Int32)).toInt64)), .second] [])) _
        refine X13.ldc2Long hx hown (mvT hZ (hw _ (List.mem_of_getElem? (i := 93) rfl))) (g := (mkF m 75 #[.val (.int p1), .val (.int p2), .val (.int (p1 &&& (2147483647 : Int32))), .val (.ref r7), .val (.ref x7), .val (.long (((p1 &&& (2147483647 : Int32)) / (4 : Int32)).toInt64)), .second, .val (.long ((p1 &&& (2147483647 : Int32)).toInt64)), .second] [])) rfl (hb hby at_75) _ ?_
        show Steps p.tables e below (T13.setTop (mkF m 78 #[.val (.int p1), .val (.int p2), .val (.int (p1 &&& (2147483647 : Int32))), .val (.ref r7), .val (.ref x7), .val (.long (((p1 &&& (2147483647 : Int32)) / (4 : Int32)).toInt64)), .second, .val (.long ((p1 &&& (2147483647 : Int32)).toInt64)), .second] [(.long (4 : Int64))])) _
        refine XS.lload X13.here hx rfl (hb hby at_78) rfl ?_
        show Steps p.tables e below (T13.setTop (mkF m 80 #[.val (.int p1), .val (.int p2), .val (.int (p1 &&& (2147483647 : Int32))), .val (.ref r7), .val (.ref x7), .val (.long (((p1 &&& (2147483647 : Int32)) / (4 : Int32)).toInt64)), .second, .val (.long ((p1 &&& (2147483647 : Int32)).toInt64)), .second] [(.long (((p1 &&& (2147483647 : Int32)) / (4 : Int32)).toInt64)), (.long (4 : Int64))])) _
        refine XS.lmul X13.here hx rfl (hb hby at_80) rfl ?_
        show Steps p.tables e below (T13.setTop (mkF m 81 #[.val (.int p1), .val (.int p2), .val (.int (p1 &&& (2147483647 : Int32))), .val (.ref r7), .val (.ref x7), .val (.long (((p1 &&& (2147483647 : Int32)) / (4 : Int32)).toInt64)), .second, .val (.long ((p1 &&& (2147483647 : Int32)).toInt64)), .second] [(.long ((4 : Int64) * (((p1 &&& (2147483647 : Int32)) / (4 : Int32)).toInt64)))])) _
        refine XS.lload X13.here hx rfl (hb hby at_81) rfl ?_
        show Steps p.tables e below (T13.setTop (mkF m 83 #[.val (.int p1), .val (.int p2), .val (.int (p1 &&& (2147483647 : Int32))), .val (.ref r7), .val (.ref x7), .val (.long (((p1 &&& (2147483647 : Int32)) / (4 : Int32)).toInt64)), .second, .val (.long ((p1 &&& (2147483647 : Int32)).toInt64)), .second] [(.long ((p1 &&& (2147483647 : Int32)).toInt64)), (.long ((4 : Int64) * (((p1 &&& (2147483647 : Int32)) / (4 : Int32)).toInt64)))])) _
        refine XS.lcmp X13.here hx rfl (hb hby at_83) rfl ?_
        show Steps p.tables e below (T13.setTop (mkF m 84 #[.val (.int p1), .val (.int p2), .val (.int (p1 &&& (2147483647 : Int32))), .val (.ref r7), .val (.ref x7), .val (.long (((p1 &&& (2147483647 : Int32)) / (4 : Int32)).toInt64)), .second, .val (.long ((p1 &&& (2147483647 : Int32)).toInt64)), .second] [(.int (lcmpW ((4 : Int64) * (((p1 &&& (2147483647 : Int32)) / (4 : Int32)).toInt64)) ((p1 &&& (2147483647 : Int32)).toInt64)))])) _
        refine XS.ifNo X13.here hx rfl (hb hby at_84) rfl ((if0 _ _).trans (flt (own_q p1).1).2.2.1) ?_
        show Steps p.tables e below (T13.setTop (mkF m 87 #[.val (.int p1), .val (.int p2), .val (.int (p1 &&& (2147483647 : Int32))), .val (.ref r7), .val (.ref x7), .val (.long (((p1 &&& (2147483647 : Int32)) / (4 : Int32)).toInt64)), .second, .val (.long ((p1 &&& (2147483647 : Int32)).toInt64)), .second] [])) _
        refine XS.lload X13.here hx rfl (hb hby at_87) rfl ?_
        show Steps p.tables e below (T13.setTop (mkF m 89 #[.val (.int p1), .val (.int p2), .val (.int (p1 &&& (2147483647 : Int32))), .val (.ref r7), .val (.ref x7), .val (.long (((p1 &&& (2147483647 : Int32)) / (4 : Int32)).toInt64)), .second, .val (.long ((p1 &&& (2147483647 : Int32)).toInt64)), .second] [(.long ((p1 &&& (2147483647 : Int32)).toInt64))])) _
        refine X13.ldc2Long hx hown (mvT hZ (hw _ (List.mem_of_getElem? (i := 93) rfl))) (g := (mkF m 89 #[.val (.int p1), .val (.int p2), .val (.int (p1 &&& (2147483647 : Int32))), .val (.ref r7), .val (.ref x7), .val (.long (((p1 &&& (2147483647 : Int32)) / (4 : Int32)).toInt64)), .second, .val (.long ((p1 &&& (2147483647 : Int32)).toInt64)), .second] [(.long ((p1 &&& (2147483647 : Int32)).toInt64))])) rfl (hb hby at_89) _ ?_
        show Steps p.tables e below (T13.setTop (mkF m 92 #[.val (.int p1), .val (.int p2), .val (.int (p1 &&& (2147483647 : Int32))), .val (.ref r7), .val (.ref x7), .val (.long (((p1 &&& (2147483647 : Int32)) / (4 : Int32)).toInt64)), .second, .val (.long ((p1 &&& (2147483647 : Int32)).toInt64)), .second] [(.long (4 : Int64)), (.long ((p1 &&& (2147483647 : Int32)).toInt64))])) _
        refine XS.lload X13.here hx rfl (hb hby at_92) rfl ?_
        show Steps p.tables e below (T13.setTop (mkF m 94 #[.val (.int p1), .val (.int p2), .val (.int (p1 &&& (2147483647 : Int32))), .val (.ref r7), .val (.ref x7), .val (.long (((p1 &&& (2147483647 : Int32)) / (4 : Int32)).toInt64)), .second, .val (.long ((p1 &&& (2147483647 : Int32)).toInt64)), .second] [(.long (((p1 &&& (2147483647 : Int32)) / (4 : Int32)).toInt64)), (.long (4 : Int64)), (.long ((p1 &&& (2147483647 : Int32)).toInt64))])) _
        refine XS.lmul X13.here hx rfl (hb hby at_94) rfl ?_
        exact k
      obtain ⟨fs, hr, hrun, hended, hW, hsame⟩ := X13.leave (v := some (.int (1 : Int32))) (fun h => by rw [Bd.returns] at h; cases h)
      refine ⟨_, _, pre14 _ ?_, hrun, hended, _, _, rfl, ?_, ⟨_, rfl⟩, hW, hsame.mono (by decide) (by decide)⟩
      · show Steps p.tables e below (T13.setTop (mkF m 95 #[.val (.int p1), .val (.int p2), .val (.int (p1 &&& (2147483647 : Int32))), .val (.ref r7), .val (.ref x7), .val (.long (((p1 &&& (2147483647 : Int32)) / (4 : Int32)).toInt64)), .second, .val (.long ((p1 &&& (2147483647 : Int32)).toInt64)), .second] [(.long ((4 : Int64) * (((p1 &&& (2147483647 : Int32)) / (4 : Int32)).toInt64))), (.long ((p1 &&& (2147483647 : Int32)).toInt64))])) _
        refine X13.ldc2Long hx hown (mvT hZ (hw _ (List.mem_of_getElem? (i := 93) rfl))) (g := (mkF m 95 #[.val (.int p1), .val (.int p2), .val (.int (p1 &&& (2147483647 : Int32))), .val (.ref r7), .val (.ref x7), .val (.long (((p1 &&& (2147483647 : Int32)) / (4 : Int32)).toInt64)), .second, .val (.long ((p1 &&& (2147483647 : Int32)).toInt64)), .second] [(.long ((4 : Int64) * (((p1 &&& (2147483647 : Int32)) / (4 : Int32)).toInt64))), (.long ((p1 &&& (2147483647 : Int32)).toInt64))])) rfl (hb hby at_95) _ ?_
        show Steps p.tables e below (T13.setTop (mkF m 98 #[.val (.int p1), .val (.int p2), .val (.int (p1 &&& (2147483647 : Int32))), .val (.ref r7), .val (.ref x7), .val (.long (((p1 &&& (2147483647 : Int32)) / (4 : Int32)).toInt64)), .second, .val (.long ((p1 &&& (2147483647 : Int32)).toInt64)), .second] [(.long (4 : Int64)), (.long ((4 : Int64) * (((p1 &&& (2147483647 : Int32)) / (4 : Int32)).toInt64))), (.long ((p1 &&& (2147483647 : Int32)).toInt64))])) _
        refine XS.ladd X13.here hx rfl (hb hby at_98) rfl ?_
        show Steps p.tables e below (T13.setTop (mkF m 99 #[.val (.int p1), .val (.int p2), .val (.int (p1 &&& (2147483647 : Int32))), .val (.ref r7), .val (.ref x7), .val (.long (((p1 &&& (2147483647 : Int32)) / (4 : Int32)).toInt64)), .second, .val (.long ((p1 &&& (2147483647 : Int32)).toInt64)), .second] [(.long (((4 : Int64) * (((p1 &&& (2147483647 : Int32)) / (4 : Int32)).toInt64)) + (4 : Int64))), (.long ((p1 &&& (2147483647 : Int32)).toInt64))])) _
        refine XS.lcmp X13.here hx rfl (hb hby at_99) rfl ?_
        show Steps p.tables e below (T13.setTop (mkF m 100 #[.val (.int p1), .val (.int p2), .val (.int (p1 &&& (2147483647 : Int32))), .val (.ref r7), .val (.ref x7), .val (.long (((p1 &&& (2147483647 : Int32)) / (4 : Int32)).toInt64)), .second, .val (.long ((p1 &&& (2147483647 : Int32)).toInt64)), .second] [(.int (lcmpW ((p1 &&& (2147483647 : Int32)).toInt64) (((4 : Int64) * (((p1 &&& (2147483647 : Int32)) / (4 : Int32)).toInt64)) + (4 : Int64))))])) _
        refine XS.ifNo X13.here hx rfl (hb hby at_100) rfl ((if0 _ _).trans (tlt (own_q p1).2).2.1) ?_
        show Steps p.tables e below (T13.setTop (mkF m 103 #[.val (.int p1), .val (.int p2), .val (.int (p1 &&& (2147483647 : Int32))), .val (.ref r7), .val (.ref x7), .val (.long (((p1 &&& (2147483647 : Int32)) / (4 : Int32)).toInt64)), .second, .val (.long ((p1 &&& (2147483647 : Int32)).toInt64)), .second] [])) _
        refine XS.iconst X13.here hx rfl (hb hby at_103) ?_
        show Steps p.tables e below (T13.setTop (mkF m 104 #[.val (.int p1), .val (.int p2), .val (.int (p1 &&& (2147483647 : Int32))), .val (.ref r7), .val (.ref x7), .val (.long (((p1 &&& (2147483647 : Int32)) / (4 : Int32)).toInt64)), .second, .val (.long ((p1 &&& (2147483647 : Int32)).toInt64)), .second] [(.int (1 : Int32))])) _
        refine XS.goto X13.here hx rfl (pc0 := 104) (pc' := 108) rfl (hb hby at_104) (by decide) (by decide) ?_
        show Steps p.tables e below (T13.setTop (mkF m 108 #[.val (.int p1), .val (.int p2), .val (.int (p1 &&& (2147483647 : Int32))), .val (.ref r7), .val (.ref x7), .val (.long (((p1 &&& (2147483647 : Int32)) / (4 : Int32)).toInt64)), .second, .val (.long ((p1 &&& (2147483647 : Int32)).toInt64)), .second] [(.int (1 : Int32))])) _
        exact retN X13 hx (t := .boolean) Bd.returns (by simp) (hb hby at_108) hr
      · show Q_rm0 Z p1 p2 wE aA kA wM aC clC h0 n0 _ T13.heap _
        rw [e13]
        exact ⟨rfl, N13, trivial⟩
set_option maxRecDepth 65536 in
set_option maxHeartbeats 40000000 in
theorem comes_1 {Post : Tables → Env → Array Value → State → Outcome → State → Prop} (hpost : ∀ tb e args s v u, (limb_1_1.after args s (.returned v) u = true ∧ limb_1_2.after args s (.returned v) u = true ∧ True) → FrameEnd s (.returned v) u (Jvm.fieldLocs frame_1_writes args s ++ Jvm.arrayLocs frame_1_arrays args s ++ Jvm.staticLocs frame_1_statics s) 16 128 → Post tb e args s (.returned v) u) :
    ArmFor flags0 classFile x code maxLocals ret World_1 tables_1 room_1 Calls_1 rest_1 Pre_1 Post := by
  intro l hfl _ _ p e ha hc hk s m args below hf hA hF happ hP
  obtain ⟨hcalls, hrest, hpre⟩ := hP
  obtain ⟨-, -, -, hnamed, -, -, -, hat⟩ := (Spec.applies_iff hf).mp happ
  obtain ⟨hg, hn⟩ := and_e (Cond.before_iff.mp (show (Jvm.Cond.and given_1 narrow_1).before args s = true from hpre))
  obtain ⟨g1, hg⟩ := and_e hg
  obtain ⟨g2, g3⟩ := and_e hg
  obtain ⟨w0, w1, rfl⟩ : ∃ w0 w1 : Value, args = #[w0, w1] := by
    have hs : args.size = 2 := by simpa [Cond.value, given_1] using g1
    obtain ⟨L⟩ := args
    match L, hs with
    | [w0, w1], _ => exact ⟨w0, w1, rfl⟩
  have hw := fun d (hd : d ∈ tables_1) => atoms_spec (ws := Jvm.Cond.code x code maxLocals ret :: tables_1) hat d (List.mem_cons_of_mem _ hd)
  have hfit : Fit s := fun {y c} hc i hi => by
    obtain ⟨ha, rfl⟩ := Array.getElem?_eq_some_iff.mp hc
    have q := List.all_eq_true.mp ((Array.all_eq_true_iff_forall_mem.mp hF) _ (Array.getElem_mem ha)) i (List.mem_range.mpr hi)
    simpa [Array.getElem?_eq_getElem hi] using q
  obtain ⟨i0, ei0⟩ := is_v g2
  obtain rfl : w0 = (.int i0) := Option.some.inj ei0
  obtain ⟨i1, ei1⟩ := is_v g3
  obtain rfl : w1 = (.int i1) := Option.some.inj ei1
  obtain ⟨hsets, hown0⟩ := atoms_of _ (rest_1_c_eq ▸ (show rest_1_c.before _ s = true from hrest))
  have hs := fun (k : Nat) {d : Jvm.Cond} (q : jdkStatics_1[k]? = some d) => Cond.before_iff.mp (hsets d (List.mem_of_getElem? q))
  obtain ⟨wE, vE⟩ := exa_v (hs 2 rfl)
  have SE := Sta.start vE (Or.inl (hsets _ (List.mem_of_getElem? (i := 1) rfl)))
  have EE := Exa.start vE (hs 2 rfl)
  obtain ⟨aA, vA⟩ := arr_v (hs 3 rfl)
  have FE := Fld.start ((fld_at vE).symm.trans vA)
  obtain ⟨clA, AA⟩ := Arr.start vA (hs 3 rfl)
  have VA := own_arv0 (dv := .null) hfit AA vA (hs 5 rfl)
  obtain ⟨wM, vM⟩ := exa_v (hs 17 rfl)
  have SM := Sta.start vM (Or.inl (hsets _ (List.mem_of_getElem? (i := 16) rfl)))
  have SH := Sta.start (own_eqI (hs 10 rfl)) (Or.inl (hsets _ (List.mem_of_getElem? (i := 8) rfl)))
  obtain ⟨aC, vC⟩ := arr_v (hs 11 rfl)
  have SCa := Sta.start vC (Or.inr ⟨hw _ (List.mem_of_getElem? (i := 28) rfl), hsets _ (List.mem_of_getElem? (i := 9) rfl)⟩)
  obtain ⟨clC, ArC⟩ := Arr.start vC (hs 11 rfl)
  have hCA := own_cache ArC vC (hs 13 rfl) (hs 14 rfl)
  obtain ⟨n, o, h1, h2, h3, _, L, rfl, ⟨rfl, N, -⟩, hq⟩ := rm0 l s _ hw tables_1 i0 i1 wE aA _ wM aC clC s.heap s.heap.size (Nat.le_refl _) (Old.start s) SE EE FE VA SM SH SCa ArC hCA p e ha hc hk s m _ below hf ((Spec.applies_iff_loose hf).mp happ).1 ⟨rfl, State.Warmed39.refl s, rfl⟩ trivial
  refine ⟨n, _, h1, h2, h3, hpost _ _ _ _ _ _ ⟨Cond.after_iff.mpr rfl, Cond.after_iff.mpr (eq_i res_at (Term.int_eval (1)) rfl), trivial⟩ ⟨hq.1, hq.2.1, (hq.2.2.sift fun y hy => Or.inr (N y hy)).mono (by decide) (by decide)⟩⟩
theorem main_1_1 : Claimed_1_1 := comes_1 fun _ _ _ _ _ _ h hF => ⟨h.1, hF⟩
theorem main_1_2 : Claimed_1_2 := comes_1 fun _ _ _ _ _ _ h hF => ⟨h.2.1, hF⟩
end Jvm.Pilot.@@N@@
namespace Jvm.Pilot.@@N@@
open Jvm Jvm.ClassFile Sem Op Lib Jvm.Free Jvm.Stand Jvm.Pilot.@@N@@.Jvm.D
/-! MADE BY PROGRAM (witnessworld.py) out of the Statement's table words and the real class files: 29 classes; the members and pool entries that the words name. The judged class is class 1, her method 1. -/
namespace start1
open Jvm.ClassFile
def u (s : String) : CpInfo := .utf8 (stringToUtf16 s)
/-- a pool by its gaps: so many unusable entries, then the entry; so many at the end -/
def gap : Nat → List CpInfo → List CpInfo
  | 0, r => r
  | n + 1, r => .unusable :: gap n r
def poolList (es : List (Nat × CpInfo)) (last : Nat) : List CpInfo := es.foldr (fun e r => gap e.1 (e.2 :: r)) (gap last [])
def pool (es : List (Nat × CpInfo)) (last : Nat) : Array CpInfo := ⟨poolList es last⟩
def fileOf (pool : Array CpInfo) (this : Nat) (attrs : Array Attribute := #[]) (ms : Array MethodInfo := #[]) (fl : Nat := 33) (sup : Nat := 0) (ifs : Array Nat := #[]) (fds : Array FieldInfo := #[]) : ClassFile where
  minorVersion := 0
  majorVersion := 65
  constantPool := pool
  accessFlags := fl
  thisClass := this
  superClass := sup
  interfaces := ifs
  fields := fds
  methods := ms
  attributes := attrs
def plain (name : String) (sup : Option ClassId) : Class where
  name := name
  kind := .ordinary
  loader := none
  accessFlags := 33
  super := sup
  interfaces := #[]
  cf := none
  fields := #[]
  methods := #[]
  instanceTypes := #[]
  staticTypes := #[]
  resolved := #[]
  callSites := []
  init := .initialized
  statics := none
  mirror := none

def pool0 : Array CpInfo := pool [(5, u "<init>"), (0, u "()V"), (1, .class_ 10), (1, u "java/lang/Object")] 113

def k0c0 : Code := { maxStack := 0, maxLocals := 1, code := object_method_1_code, exceptionTable := #[], attributes := #[] }
def k0m0 : Method := { name := "<init>", desc := "()V", sig := { parameters := [], returnType := none }, accessFlags := 1, code := some k0c0 }
/-- java/lang/Object -/
def k0 : Class := { plain "java/lang/Object" none with
  accessFlags := 33
  interfaces := #[]
  cf := some (fileOf pool0 8 #[] #[{ accessFlags := 1, nameIndex := 5, descriptorIndex := 6, attributes := #[] }] 33 0 #[] #[])
  fields := #[]
  methods := #[k0m0]
  instanceTypes := #[]
  staticTypes := #[]
  resolved := Array.replicate 124 none
  statics := none }

def pool1 : Array CpInfo := pool [(2, .class_ 4), (1, u "java/lang/Object"), (0, u "<init>"), (0, u "()V"), (0, .integer 2147483647), (0, .methodref 9 10), (0, .class_ 11), (0, .nameAndType 12 13), (0, u "com/example/affix/affix/bench/StartupGraph"), (0, u "fields"), (0, u "(I)Ljava/util/List;"), (0, .interfaceMethodref 15 16), (0, .class_ 17), (0, .nameAndType 18 19), (0, u "java/util/List"), (0, u "size"), (0, u "()I"), (0, .interfaceMethodref 15 21), (0, .nameAndType 22 23), (0, u "get"), (0, u "(I)Ljava/lang/Object;"), (0, .class_ 25), (0, u "java/lang/Integer"), (0, .methodref 24 27), (0, .nameAndType 28 19), (0, u "intValue"), (0, .long 4), (1, .class_ 32), (0, u "com/example/affix/affix/bench/StartupGraphFieldsPinLaw"), (2, u "law"), (0, u "(II)Z")] 3

def k1m0 : Method := { name := "<init>", desc := "()V", sig := { parameters := [], returnType := none }, accessFlags := 2, code := none }
def k1c1 : Code := { maxStack := 6, maxLocals := 9, code := code, exceptionTable := #[], attributes := #[] }
def k1m1 : Method := { name := "law", desc := "(II)Z", sig := { parameters := [.int, .int], returnType := some .boolean }, accessFlags := 9, code := some k1c1 }
/-- com/example/affix/affix/bench/StartupGraphFieldsPinLaw -/
def k1 : Class := { plain "com/example/affix/affix/bench/StartupGraphFieldsPinLaw" (some 0) with
  accessFlags := 49
  interfaces := #[]
  cf := some (fileOf pool1 31 #[] #[{ accessFlags := 2, nameIndex := 5, descriptorIndex := 6, attributes := #[] }, { accessFlags := 9, nameIndex := 35, descriptorIndex := 36, attributes := #[] }] 49 2 #[] #[])
  fields := #[]
  methods := #[k1m0, k1m1]
  instanceTypes := #[]
  staticTypes := #[]
  resolved := Array.replicate 40 none
  statics := none }

def pool2 : Array CpInfo := pool [(2, .class_ 4), (1, u "java/lang/Object"), (0, u "<init>"), (0, u "()V"), (0, .interfaceMethodref 8 9), (0, .class_ 10), (0, .nameAndType 11 12), (0, u "java/util/List"), (0, u "of"), (0, u "()Ljava/util/List;"), (2, .methodref 16 17), (0, .class_ 18), (0, .nameAndType 19 20), (0, u "java/lang/Integer"), (0, u "valueOf"), (0, u "(I)Ljava/lang/Integer;"), (10, .interfaceMethodref 8 32), (0, .nameAndType 11 33), (0, u "(Ljava/lang/Object;)Ljava/util/List;"), (5, .class_ 41), (1, u "com/example/affix/affix/bench/StartupGraph"), (25, u "fields"), (0, u "(I)Ljava/util/List;"), (105, u "SIZE"), (0, u "I"), (2, u "PACKAGE"), (0, u "Ljava/lang/String;"), (0, u "FIELD"), (0, u "CONSTRUCTOR_PARAMETERS"), (1, u "FIELDS")] 37

def k2m0 : Method := { name := "<init>", desc := "()V", sig := { parameters := [], returnType := none }, accessFlags := 2, code := none }
def k2c1 : Code := { maxStack := 2, maxLocals := 1, code := prog_19_method_3_code, exceptionTable := #[], attributes := #[] }
def k2m1 : Method := { name := "fields", desc := "(I)Ljava/util/List;", sig := { parameters := [.int], returnType := some (.object "java/util/List") }, accessFlags := 8, code := some k2c1 }
/-- com/example/affix/affix/bench/StartupGraph -/
def k2 : Class := { plain "com/example/affix/affix/bench/StartupGraph" (some 0) with
  accessFlags := 32
  interfaces := #[]
  cf := some (fileOf pool2 39 #[] #[{ accessFlags := 2, nameIndex := 5, descriptorIndex := 6, attributes := #[] }, { accessFlags := 8, nameIndex := 67, descriptorIndex := 68, attributes := #[] }] 32 2 #[] #[{ accessFlags := 24, nameIndex := 174, descriptorIndex := 175, attributes := #[] }, { accessFlags := 24, nameIndex := 178, descriptorIndex := 179, attributes := #[] }, { accessFlags := 24, nameIndex := 180, descriptorIndex := 179, attributes := #[] }, { accessFlags := 26, nameIndex := 181, descriptorIndex := 175, attributes := #[] }, { accessFlags := 26, nameIndex := 183, descriptorIndex := 175, attributes := #[] }])
  fields := #[{ name := "SIZE", type := .int, accessFlags := 24, slot := 0, constantValue := 0 }, { name := "PACKAGE", type := (.object "java/lang/String"), accessFlags := 24, slot := 1, constantValue := 0 }, { name := "FIELD", type := (.object "java/lang/String"), accessFlags := 24, slot := 2, constantValue := 0 }, { name := "CONSTRUCTOR_PARAMETERS", type := .int, accessFlags := 26, slot := 3, constantValue := 0 }, { name := "FIELDS", type := .int, accessFlags := 26, slot := 4, constantValue := 0 }]
  methods := #[k2m0, k2m1]
  instanceTypes := #[]
  staticTypes := #[.int, (.object "java/lang/String"), (.object "java/lang/String"), .int, .int]
  resolved := Array.replicate 221 none
  statics := none }

def pool3 : Array CpInfo := pool [(8, .class_ 10), (1, u "java/lang/Iterable"), (24, .class_ 36), (0, u "java/lang/Object")] 25

/-- java/lang/Iterable -/
def k3 : Class := { plain "java/lang/Iterable" (some 0) with
  accessFlags := 1537
  interfaces := #[]
  cf := some (fileOf pool3 8 #[] #[] 1537 35 #[] #[])
  fields := #[]
  methods := #[]
  instanceTypes := #[]
  staticTypes := #[]
  resolved := Array.replicate 62 none
  statics := none }

def pool4 : Array CpInfo := pool [(10, .class_ 12), (1, u "java/util/Collection"), (47, .class_ 61), (0, u "java/lang/Object"), (0, .class_ 63), (0, u "java/lang/Iterable")] 51

/-- java/util/Collection -/
def k4 : Class := { plain "java/util/Collection" (some 0) with
  accessFlags := 1537
  interfaces := #[3]
  cf := some (fileOf pool4 10 #[] #[] 1537 60 #[62] #[])
  fields := #[]
  methods := #[]
  instanceTypes := #[]
  staticTypes := #[]
  resolved := Array.replicate 115 none
  statics := none }

def pool5 : Array CpInfo := pool [(8, .class_ 10), (1, u "java/util/SequencedCollection"), (15, .class_ 27), (0, u "java/lang/Object"), (0, .class_ 29), (0, u "java/util/Collection")] 27

/-- java/util/SequencedCollection -/
def k5 : Class := { plain "java/util/SequencedCollection" (some 0) with
  accessFlags := 1537
  interfaces := #[4]
  cf := some (fileOf pool5 8 #[] #[] 1537 26 #[28] #[])
  fields := #[]
  methods := #[]
  instanceTypes := #[]
  staticTypes := #[]
  resolved := Array.replicate 57 none
  statics := none }

def pool6 : Array CpInfo := pool [(8, .class_ 10), (1, u "java/util/List"), (20, u "(Ljava/lang/Object;)V"), (16, u "<init>"), (26, u "get"), (0, u "(I)Ljava/lang/Object;"), (2, u "size"), (0, u "()I"), (7, u "of"), (1, .fieldref 91 92), (0, .class_ 93), (0, .nameAndType 94 95), (0, u "java/util/ImmutableCollections"), (0, u "EMPTY_LIST"), (0, u "Ljava/util/ImmutableCollections$ListN;"), (0, .class_ 97), (0, u "java/util/ImmutableCollections$List12"), (0, .methodref 96 99), (0, .nameAndType 48 31), (3, .class_ 104), (0, u "java/lang/Object"), (14, u "()Ljava/util/List;"), (0, .class_ 121), (0, u "java/util/SequencedCollection"), (76, u "(Ljava/lang/Object;)Ljava/util/List;")] 52

def k6m0 : Method := { name := "size", desc := "()I", sig := { parameters := [], returnType := some .int }, accessFlags := 1025, code := none }
def k6m1 : Method := { name := "get", desc := "(I)Ljava/lang/Object;", sig := { parameters := [.int], returnType := some (.object "java/lang/Object") }, accessFlags := 1025, code := none }
def k6c2 : Code := { maxStack := 1, maxLocals := 0, code := jdk_40_method_36_code, exceptionTable := #[], attributes := #[] }
def k6m2 : Method := { name := "of", desc := "()Ljava/util/List;", sig := { parameters := [], returnType := some (.object "java/util/List") }, accessFlags := 9, code := some k6c2 }
def k6c3 : Code := { maxStack := 3, maxLocals := 1, code := jdk_40_method_37_code, exceptionTable := #[], attributes := #[] }
def k6m3 : Method := { name := "of", desc := "(Ljava/lang/Object;)Ljava/util/List;", sig := { parameters := [(.object "java/lang/Object")], returnType := some (.object "java/util/List") }, accessFlags := 9, code := some k6c3 }
/-- java/util/List -/
def k6 : Class := { plain "java/util/List" (some 0) with
  accessFlags := 1537
  interfaces := #[5]
  cf := some (fileOf pool6 8 #[] #[{ accessFlags := 1025, nameIndex := 79, descriptorIndex := 80, attributes := #[] }, { accessFlags := 1025, nameIndex := 75, descriptorIndex := 76, attributes := #[] }, { accessFlags := 9, nameIndex := 88, descriptorIndex := 119, attributes := #[] }, { accessFlags := 9, nameIndex := 88, descriptorIndex := 198, attributes := #[] }] 1537 103 #[120] #[])
  fields := #[]
  methods := #[k6m0, k6m1, k6m2, k6m3]
  instanceTypes := #[]
  staticTypes := #[]
  resolved := Array.replicate 251 none
  statics := none }

def pool7 : Array CpInfo := pool [(2, .class_ 4), (1, u "java/lang/Object"), (0, u "<init>"), (0, u "()V"), (3, .class_ 11), (0, u "java/util/ImmutableCollections$List12"), (0, .class_ 13), (0, u "java/util/ImmutableCollections$ListN"), (3, u "Z"), (29, .class_ 49), (1, u "java/util/ImmutableCollections"), (0, u "$assertionsDisabled"), (5, u "[Ljava/lang/Object;"), (5, u "EMPTY_LIST"), (0, u "Ljava/util/ImmutableCollections$ListN;"), (8, u "EMPTY_LIST_NULLS"), (22, u "SALT32L"), (0, u "J"), (2, u "REVERSE"), (6, u "archivedObjects"), (2, u "EMPTY"), (0, u "Ljava/lang/Object;"), (0, .class_ 112), (0, u "java/util/ImmutableCollections$SetN"), (5, u "EMPTY_SET"), (0, u "Ljava/util/ImmutableCollections$SetN;"), (0, .class_ 121), (0, u "java/util/ImmutableCollections$MapN"), (3, u "EMPTY_MAP"), (0, u "Ljava/util/ImmutableCollections$MapN;"), (4, u "EXPAND_FACTOR"), (0, u "I"), (36, .class_ 170), (0, u "java/util/ImmutableCollections$MapN$MapNIterator"), (0, .class_ 172), (0, u "java/util/ImmutableCollections$MapN$1"), (0, .class_ 174), (0, u "java/util/ImmutableCollections$Map1"), (0, .class_ 176), (0, u "java/util/ImmutableCollections$AbstractImmutableMap"), (0, .class_ 178), (0, u "java/util/ImmutableCollections$SetN$SetNIterator"), (0, .class_ 180), (0, u "java/util/ImmutableCollections$Set12"), (0, .class_ 182), (0, u "java/util/ImmutableCollections$Set12$1"), (0, .class_ 184), (0, u "java/util/ImmutableCollections$AbstractImmutableSet"), (0, .class_ 186), (0, u "java/util/ImmutableCollections$SubList"), (0, .class_ 188), (0, u "java/util/ImmutableCollections$ListItr"), (0, .class_ 190), (0, u "java/util/ImmutableCollections$AbstractImmutableList"), (0, .class_ 192), (0, u "java/util/ImmutableCollections$AbstractImmutableCollection"), (0, .class_ 194), (0, u "java/util/ImmutableCollections$Access"), (0, .class_ 196), (0, u "java/util/ImmutableCollections$Access$1")] 16

def k7m0 : Method := { name := "<init>", desc := "()V", sig := { parameters := [], returnType := none }, accessFlags := 2, code := none }
/-- java/util/ImmutableCollections -/
def k7 : Class := { plain "java/util/ImmutableCollections" (some 0) with
  accessFlags := 32
  interfaces := #[]
  cf := some (fileOf pool7 47 #[.nestMembers #[120, 169, 171, 173, 175, 111, 177, 179, 181, 183, 12, 10, 185, 187, 189, 191, 193, 195]] #[{ accessFlags := 2, nameIndex := 5, descriptorIndex := 6, attributes := #[] }] 32 2 #[] #[{ accessFlags := 26, nameIndex := 95, descriptorIndex := 96, attributes := #[] }, { accessFlags := 26, nameIndex := 99, descriptorIndex := 17, attributes := #[] }, { accessFlags := 10, nameIndex := 106, descriptorIndex := 56, attributes := #[] }, { accessFlags := 26, nameIndex := 109, descriptorIndex := 110, attributes := #[] }, { accessFlags := 24, nameIndex := 62, descriptorIndex := 63, attributes := #[] }, { accessFlags := 24, nameIndex := 72, descriptorIndex := 63, attributes := #[] }, { accessFlags := 24, nameIndex := 118, descriptorIndex := 119, attributes := #[] }, { accessFlags := 24, nameIndex := 125, descriptorIndex := 126, attributes := #[] }, { accessFlags := 24, nameIndex := 131, descriptorIndex := 132, attributes := #[] }, { accessFlags := 4120, nameIndex := 50, descriptorIndex := 17, attributes := #[] }])
  fields := #[{ name := "SALT32L", type := .long, accessFlags := 26, slot := 0, constantValue := 0 }, { name := "REVERSE", type := .boolean, accessFlags := 26, slot := 1, constantValue := 0 }, { name := "archivedObjects", type := (.array (.object "java/lang/Object")), accessFlags := 10, slot := 2, constantValue := 0 }, { name := "EMPTY", type := (.object "java/lang/Object"), accessFlags := 26, slot := 3, constantValue := 0 }, { name := "EMPTY_LIST", type := (.object "java/util/ImmutableCollections$ListN"), accessFlags := 24, slot := 4, constantValue := 0 }, { name := "EMPTY_LIST_NULLS", type := (.object "java/util/ImmutableCollections$ListN"), accessFlags := 24, slot := 5, constantValue := 0 }, { name := "EMPTY_SET", type := (.object "java/util/ImmutableCollections$SetN"), accessFlags := 24, slot := 6, constantValue := 0 }, { name := "EMPTY_MAP", type := (.object "java/util/ImmutableCollections$MapN"), accessFlags := 24, slot := 7, constantValue := 0 }, { name := "EXPAND_FACTOR", type := .int, accessFlags := 24, slot := 8, constantValue := 0 }, { name := "$assertionsDisabled", type := .boolean, accessFlags := 4120, slot := 9, constantValue := 0 }]
  methods := #[k7m0]
  instanceTypes := #[]
  staticTypes := #[.long, .boolean, (.array (.object "java/lang/Object")), (.object "java/lang/Object"), (.object "java/util/ImmutableCollections$ListN"), (.object "java/util/ImmutableCollections$ListN"), (.object "java/util/ImmutableCollections$SetN"), (.object "java/util/ImmutableCollections$MapN"), .int, .boolean]
  resolved := Array.replicate 213 none
  statics := some 0 }

def pool8 : Array CpInfo := pool [(1, .methodref 2 3), (0, .class_ 4), (0, .nameAndType 5 6), (0, u "java/lang/Object"), (0, u "<init>"), (0, u "()V"), (1, .class_ 10), (1, u "java/util/AbstractCollection"), (66, .class_ 78), (0, u "java/util/Collection")] 81

def k8c0 : Code := { maxStack := 1, maxLocals := 1, code := jdk_22_method_1_code, exceptionTable := #[], attributes := #[] }
def k8m0 : Method := { name := "<init>", desc := "()V", sig := { parameters := [], returnType := none }, accessFlags := 4, code := some k8c0 }
/-- java/util/AbstractCollection -/
def k8 : Class := { plain "java/util/AbstractCollection" (some 0) with
  accessFlags := 1057
  interfaces := #[4]
  cf := some (fileOf pool8 8 #[] #[{ accessFlags := 4, nameIndex := 5, descriptorIndex := 6, attributes := #[] }] 1057 2 #[77] #[])
  fields := #[]
  methods := #[k8m0]
  instanceTypes := #[]
  staticTypes := #[]
  resolved := Array.replicate 160 none
  statics := none }

def pool9 : Array CpInfo := pool [(1, .methodref 2 3), (0, .class_ 4), (0, .nameAndType 5 6), (0, u "java/util/AbstractCollection"), (0, u "<init>"), (0, u "()V"), (1, .class_ 10), (1, u "java/util/ImmutableCollections"), (2, .class_ 14), (0, u "java/util/ImmutableCollections$AbstractImmutableCollection")] 41

def k9c0 : Code := { maxStack := 1, maxLocals := 1, code := jdk_47_method_1_code, exceptionTable := #[], attributes := #[] }
def k9m0 : Method := { name := "<init>", desc := "()V", sig := { parameters := [], returnType := none }, accessFlags := 0, code := some k9c0 }
/-- java/util/ImmutableCollections$AbstractImmutableCollection -/
def k9 : Class := { plain "java/util/ImmutableCollections$AbstractImmutableCollection" (some 8) with
  accessFlags := 1056
  interfaces := #[]
  cf := some (fileOf pool9 13 #[.nestHost 8] #[{ accessFlags := 0, nameIndex := 5, descriptorIndex := 6, attributes := #[] }] 1056 2 #[] #[])
  fields := #[]
  methods := #[k9m0]
  instanceTypes := #[]
  staticTypes := #[]
  resolved := Array.replicate 56 none
  statics := none }

def pool10 : Array CpInfo := pool [(1, .class_ 2), (0, u "java/util/RandomAccess"), (0, .class_ 4), (0, u "java/lang/Object")] 2

/-- java/util/RandomAccess -/
def k10 : Class := { plain "java/util/RandomAccess" (some 0) with
  accessFlags := 1537
  interfaces := #[]
  cf := some (fileOf pool10 1 #[] #[] 1537 3 #[] #[])
  fields := #[]
  methods := #[]
  instanceTypes := #[]
  staticTypes := #[]
  resolved := Array.replicate 7 none
  statics := none }

def pool11 : Array CpInfo := pool [(1, .methodref 2 3), (0, .class_ 4), (0, .nameAndType 5 6), (0, u "java/util/ImmutableCollections$AbstractImmutableCollection"), (0, u "<init>"), (0, u "()V"), (1, .class_ 10), (1, u "java/util/ImmutableCollections"), (3, .class_ 16), (1, u "java/util/ImmutableCollections$AbstractImmutableList"), (60, .class_ 78), (0, u "java/util/List"), (45, .class_ 125), (0, u "java/util/RandomAccess")] 70

def k11c0 : Code := { maxStack := 1, maxLocals := 1, code := jdk_46_method_1_code, exceptionTable := #[], attributes := #[] }
def k11m0 : Method := { name := "<init>", desc := "()V", sig := { parameters := [], returnType := none }, accessFlags := 0, code := some k11c0 }
/-- java/util/ImmutableCollections$AbstractImmutableList -/
def k11 : Class := { plain "java/util/ImmutableCollections$AbstractImmutableList" (some 9) with
  accessFlags := 1056
  interfaces := #[6, 10]
  cf := some (fileOf pool11 14 #[.nestHost 8] #[{ accessFlags := 0, nameIndex := 5, descriptorIndex := 6, attributes := #[] }] 1056 2 #[77, 124] #[])
  fields := #[]
  methods := #[k11m0]
  instanceTypes := #[]
  staticTypes := #[]
  resolved := Array.replicate 196 none
  statics := none }

def pool12 : Array CpInfo := pool [(1, .class_ 2), (0, u "java/io/Serializable"), (0, .class_ 4), (0, u "java/lang/Object")] 2

/-- java/io/Serializable -/
def k12 : Class := { plain "java/io/Serializable" (some 0) with
  accessFlags := 1537
  interfaces := #[]
  cf := some (fileOf pool12 1 #[] #[] 1537 3 #[] #[])
  fields := #[]
  methods := #[]
  instanceTypes := #[]
  staticTypes := #[]
  resolved := Array.replicate 7 none
  statics := none }

def pool13 : Array CpInfo := pool [(2, .class_ 4), (1, u "java/util/ImmutableCollections$AbstractImmutableList"), (2, .fieldref 8 9), (0, .class_ 10), (0, .nameAndType 11 12), (0, u "java/util/ImmutableCollections$ListN"), (0, u "elements"), (0, u "[Ljava/lang/Object;"), (2, u "allowNulls"), (0, u "Z"), (42, .class_ 60), (0, u "java/io/Serializable"), (16, u "size"), (0, u "()I"), (35, .class_ 115), (0, u "java/util/ImmutableCollections")] 3

def k13c0 : Code := { maxStack := 1, maxLocals := 1, code := jdk_45_method_3_code, exceptionTable := #[], attributes := #[] }
def k13m0 : Method := { name := "size", desc := "()I", sig := { parameters := [], returnType := some .int }, accessFlags := 1, code := some k13c0 }
/-- java/util/ImmutableCollections$ListN -/
def k13 : Class := { plain "java/util/ImmutableCollections$ListN" (some 11) with
  accessFlags := 48
  interfaces := #[12]
  cf := some (fileOf pool13 8 #[.nestHost 114] #[{ accessFlags := 1, nameIndex := 77, descriptorIndex := 78, attributes := #[] }] 48 2 #[59] #[{ accessFlags := 18, nameIndex := 11, descriptorIndex := 12, attributes := #[] }, { accessFlags := 18, nameIndex := 15, descriptorIndex := 16, attributes := #[] }])
  fields := #[{ name := "elements", type := (.array (.object "java/lang/Object")), accessFlags := 18, slot := 0, constantValue := 0 }, { name := "allowNulls", type := .boolean, accessFlags := 18, slot := 1, constantValue := 0 }]
  methods := #[k13m0]
  instanceTypes := #[(.array (.object "java/lang/Object")), .boolean]
  staticTypes := #[]
  resolved := Array.replicate 119 none
  statics := none }

def pool14 : Array CpInfo := pool [(1, .methodref 2 3), (0, .class_ 4), (0, .nameAndType 5 6), (0, u "java/lang/Object"), (0, u "<init>"), (0, u "()V"), (1, .class_ 10), (1, u "java/lang/Number"), (2, .class_ 14), (0, u "java/io/Serializable"), (0, u "serialVersionUID"), (0, u "J")] 20

def k14c0 : Code := { maxStack := 1, maxLocals := 1, code := jdk_18_method_1_code, exceptionTable := #[], attributes := #[] }
def k14m0 : Method := { name := "<init>", desc := "()V", sig := { parameters := [], returnType := none }, accessFlags := 1, code := some k14c0 }
/-- java/lang/Number -/
def k14 : Class := { plain "java/lang/Number" (some 0) with
  accessFlags := 1057
  interfaces := #[12]
  cf := some (fileOf pool14 8 #[] #[{ accessFlags := 1, nameIndex := 5, descriptorIndex := 6, attributes := #[] }] 1057 2 #[13] #[{ accessFlags := 26, nameIndex := 15, descriptorIndex := 16, attributes := #[] }])
  fields := #[{ name := "serialVersionUID", type := .long, accessFlags := 26, slot := 0, constantValue := 0 }]
  methods := #[k14m0]
  instanceTypes := #[]
  staticTypes := #[.long]
  resolved := Array.replicate 37 none
  statics := none }

def pool15 : Array CpInfo := pool [(1, .class_ 2), (0, u "java/lang/Comparable"), (0, .class_ 4), (0, u "java/lang/Object")] 7

/-- java/lang/Comparable -/
def k15 : Class := { plain "java/lang/Comparable" (some 0) with
  accessFlags := 1537
  interfaces := #[]
  cf := some (fileOf pool15 1 #[] #[] 1537 3 #[] #[])
  fields := #[]
  methods := #[]
  instanceTypes := #[]
  staticTypes := #[]
  resolved := Array.replicate 12 none
  statics := none }

def pool16 : Array CpInfo := pool [(1, .class_ 2), (0, u "java/lang/constant/Constable"), (0, .class_ 4), (0, u "java/lang/Object")] 6

/-- java/lang/constant/Constable -/
def k16 : Class := { plain "java/lang/constant/Constable" (some 0) with
  accessFlags := 1537
  interfaces := #[]
  cf := some (fileOf pool16 1 #[] #[] 1537 3 #[] #[])
  fields := #[]
  methods := #[]
  instanceTypes := #[]
  staticTypes := #[]
  resolved := Array.replicate 11 none
  statics := none }

def pool17 : Array CpInfo := pool [(1, .class_ 2), (0, u "java/lang/constant/ConstantDesc"), (0, .class_ 4), (0, u "java/lang/Object")] 32

/-- java/lang/constant/ConstantDesc -/
def k17 : Class := { plain "java/lang/constant/ConstantDesc" (some 0) with
  accessFlags := 1537
  interfaces := #[]
  cf := some (fileOf pool17 1 #[] #[] 1537 3 #[] #[])
  fields := #[]
  methods := #[]
  instanceTypes := #[]
  staticTypes := #[]
  resolved := Array.replicate 37 none
  statics := none }

def pool18 : Array CpInfo := pool [(1, .class_ 2), (0, u "java/lang/Integer"), (16, u "digits"), (0, u "[C"), (46, u "<init>"), (17, u "DigitOnes"), (0, u "[B"), (2, u "DigitTens"), (10, .nameAndType 67 101), (0, u "()V"), (19, u "()I"), (65, u "valueOf"), (0, u "(I)Ljava/lang/Integer;"), (0, .class_ 190), (0, u "java/lang/Integer$IntegerCache"), (0, .fieldref 189 192), (0, .nameAndType 193 194), (0, u "high"), (0, u "I"), (0, .fieldref 189 196), (0, .nameAndType 197 198), (0, u "cache"), (0, u "[Ljava/lang/Integer;"), (0, .methodref 1 200), (0, .nameAndType 67 201), (0, u "(I)V"), (0, .methodref 203 100), (0, .class_ 204), (0, u "java/lang/Number"), (0, .fieldref 1 206), (0, .nameAndType 207 194), (0, u "value"), (5, u "intValue"), (88, u "TYPE"), (0, u "Ljava/lang/Class;"), (0, .class_ 305), (0, u "java/lang/Comparable"), (0, .class_ 307), (0, u "java/lang/constant/Constable"), (0, .class_ 309), (0, u "java/lang/constant/ConstantDesc"), (0, u "MIN_VALUE"), (1, u "MAX_VALUE"), (3, u "SIZE"), (1, u "BYTES"), (1, u "serialVersionUID"), (0, u "J")] 131

def k18c0 : Code := { maxStack := 3, maxLocals := 1, code := jdk_33_method_22_code, exceptionTable := #[], attributes := #[] }
def k18m0 : Method := { name := "valueOf", desc := "(I)Ljava/lang/Integer;", sig := { parameters := [.int], returnType := some (.object "java/lang/Integer") }, accessFlags := 9, code := some k18c0 }
def k18c1 : Code := { maxStack := 2, maxLocals := 2, code := jdk_33_method_23_code, exceptionTable := #[], attributes := #[] }
def k18m1 : Method := { name := "<init>", desc := "(I)V", sig := { parameters := [.int], returnType := none }, accessFlags := 1, code := some k18c1 }
def k18c2 : Code := { maxStack := 1, maxLocals := 1, code := jdk_33_method_27_code, exceptionTable := #[], attributes := #[] }
def k18m2 : Method := { name := "intValue", desc := "()I", sig := { parameters := [], returnType := some .int }, accessFlags := 1, code := some k18c2 }
/-- java/lang/Integer -/
def k18 : Class := { plain "java/lang/Integer" (some 14) with
  accessFlags := 49
  interfaces := #[15, 16, 17]
  cf := some (fileOf pool18 1 #[.nestMembers #[189]] #[{ accessFlags := 9, nameIndex := 187, descriptorIndex := 188, attributes := #[] }, { accessFlags := 1, nameIndex := 67, descriptorIndex := 201, attributes := #[] }, { accessFlags := 1, nameIndex := 213, descriptorIndex := 121, attributes := #[] }] 49 203 #[304, 306, 308] #[{ accessFlags := 25, nameIndex := 310, descriptorIndex := 194, attributes := #[] }, { accessFlags := 25, nameIndex := 312, descriptorIndex := 194, attributes := #[] }, { accessFlags := 25, nameIndex := 302, descriptorIndex := 303, attributes := #[] }, { accessFlags := 24, nameIndex := 19, descriptorIndex := 20, attributes := #[] }, { accessFlags := 24, nameIndex := 89, descriptorIndex := 86, attributes := #[] }, { accessFlags := 24, nameIndex := 85, descriptorIndex := 86, attributes := #[] }, { accessFlags := 18, nameIndex := 207, descriptorIndex := 194, attributes := #[] }, { accessFlags := 25, nameIndex := 316, descriptorIndex := 194, attributes := #[] }, { accessFlags := 25, nameIndex := 318, descriptorIndex := 194, attributes := #[] }, { accessFlags := 26, nameIndex := 320, descriptorIndex := 321, attributes := #[] }])
  fields := #[{ name := "MIN_VALUE", type := .int, accessFlags := 25, slot := 0, constantValue := 0 }, { name := "MAX_VALUE", type := .int, accessFlags := 25, slot := 1, constantValue := 0 }, { name := "TYPE", type := (.object "java/lang/Class"), accessFlags := 25, slot := 2, constantValue := 0 }, { name := "digits", type := (.array .char), accessFlags := 24, slot := 3, constantValue := 0 }, { name := "DigitTens", type := (.array .byte), accessFlags := 24, slot := 4, constantValue := 0 }, { name := "DigitOnes", type := (.array .byte), accessFlags := 24, slot := 5, constantValue := 0 }, { name := "value", type := .int, accessFlags := 18, slot := 0, constantValue := 0 }, { name := "SIZE", type := .int, accessFlags := 25, slot := 6, constantValue := 0 }, { name := "BYTES", type := .int, accessFlags := 25, slot := 7, constantValue := 0 }, { name := "serialVersionUID", type := .long, accessFlags := 26, slot := 8, constantValue := 0 }]
  methods := #[k18m0, k18m1, k18m2]
  instanceTypes := #[.int]
  staticTypes := #[.int, .int, (.object "java/lang/Class"), (.array .char), (.array .byte), (.array .byte), .int, .int, .long]
  resolved := Array.replicate 453 none
  statics := none }

def pool19 : Array CpInfo := pool [(2, .class_ 4), (1, u "java/lang/Object"), (0, u "<init>"), (0, u "()V"), (0, .class_ 8), (0, u "java/lang/Integer"), (7, .class_ 18), (1, u "java/lang/Integer$IntegerCache"), (0, u "$assertionsDisabled"), (0, u "Z"), (26, u "high"), (0, u "I"), (8, u "archivedCache"), (0, u "[Ljava/lang/Integer;"), (12, u "cache"), (0, u "low")] 27

def k19m0 : Method := { name := "<init>", desc := "()V", sig := { parameters := [], returnType := none }, accessFlags := 2, code := none }
/-- java/lang/Integer$IntegerCache -/
def k19 : Class := { plain "java/lang/Integer$IntegerCache" (some 0) with
  accessFlags := 48
  interfaces := #[]
  cf := some (fileOf pool19 16 #[.nestHost 7] #[{ accessFlags := 2, nameIndex := 5, descriptorIndex := 6, attributes := #[] }] 48 2 #[] #[{ accessFlags := 24, nameIndex := 72, descriptorIndex := 48, attributes := #[] }, { accessFlags := 24, nameIndex := 47, descriptorIndex := 48, attributes := #[] }, { accessFlags := 24, nameIndex := 71, descriptorIndex := 58, attributes := #[] }, { accessFlags := 8, nameIndex := 57, descriptorIndex := 58, attributes := #[] }, { accessFlags := 4120, nameIndex := 19, descriptorIndex := 20, attributes := #[] }])
  fields := #[{ name := "low", type := .int, accessFlags := 24, slot := 0, constantValue := 0 }, { name := "high", type := .int, accessFlags := 24, slot := 1, constantValue := 0 }, { name := "cache", type := (.array (.object "java/lang/Integer")), accessFlags := 24, slot := 2, constantValue := 0 }, { name := "archivedCache", type := (.array (.object "java/lang/Integer")), accessFlags := 8, slot := 3, constantValue := 0 }, { name := "$assertionsDisabled", type := .boolean, accessFlags := 4120, slot := 4, constantValue := 0 }]
  methods := #[k19m0]
  instanceTypes := #[]
  staticTypes := #[.int, .int, (.array (.object "java/lang/Integer")), (.array (.object "java/lang/Integer")), .boolean]
  resolved := Array.replicate 100 none
  statics := some 1 }

def pool20 : Array CpInfo := pool [(1, .methodref 2 3), (0, .class_ 4), (0, .nameAndType 5 6), (0, u "java/util/ImmutableCollections$AbstractImmutableList"), (0, u "<init>"), (0, u "()V"), (0, .methodref 8 9), (0, .class_ 10), (0, .nameAndType 11 12), (0, u "java/util/Objects"), (0, u "requireNonNull"), (0, u "(Ljava/lang/Object;)Ljava/lang/Object;"), (0, .fieldref 14 15), (0, .class_ 16), (0, .nameAndType 17 18), (0, u "java/util/ImmutableCollections$List12"), (0, u "e0"), (0, u "Ljava/lang/Object;"), (0, .fieldref 20 21), (0, .class_ 22), (0, .nameAndType 23 18), (0, u "java/util/ImmutableCollections"), (0, u "EMPTY"), (0, .fieldref 14 25), (0, .nameAndType 26 18), (0, u "e1"), (24, u "size"), (0, u "()I"), (17, .class_ 71), (0, u "java/io/Serializable"), (4, u "(Ljava/lang/Object;)V"), (13, u "get"), (0, u "(I)Ljava/lang/Object;")] 33

def k20c0 : Code := { maxStack := 2, maxLocals := 2, code := jdk_44_method_1_code, exceptionTable := #[], attributes := #[] }
def k20m0 : Method := { name := "<init>", desc := "(Ljava/lang/Object;)V", sig := { parameters := [(.object "java/lang/Object")], returnType := none }, accessFlags := 0, code := some k20c0 }
def k20c1 : Code := { maxStack := 2, maxLocals := 1, code := jdk_44_method_3_code, exceptionTable := #[], attributes := #[] }
def k20m1 : Method := { name := "size", desc := "()I", sig := { parameters := [], returnType := some .int }, accessFlags := 1, code := some k20c1 }
def k20c2 : Code := { maxStack := 2, maxLocals := 2, code := jdk_44_method_5_code, exceptionTable := #[], attributes := #[] }
def k20m2 : Method := { name := "get", desc := "(I)Ljava/lang/Object;", sig := { parameters := [.int], returnType := some (.object "java/lang/Object") }, accessFlags := 1, code := some k20c2 }
/-- java/util/ImmutableCollections$List12 -/
def k20 : Class := { plain "java/util/ImmutableCollections$List12" (some 11) with
  accessFlags := 48
  interfaces := #[12]
  cf := some (fileOf pool20 14 #[.nestHost 20] #[{ accessFlags := 0, nameIndex := 5, descriptorIndex := 76, attributes := #[] }, { accessFlags := 1, nameIndex := 51, descriptorIndex := 52, attributes := #[] }, { accessFlags := 1, nameIndex := 90, descriptorIndex := 91, attributes := #[] }] 48 2 #[70] #[{ accessFlags := 18, nameIndex := 17, descriptorIndex := 18, attributes := #[] }, { accessFlags := 18, nameIndex := 26, descriptorIndex := 18, attributes := #[] }])
  fields := #[{ name := "e0", type := (.object "java/lang/Object"), accessFlags := 18, slot := 0, constantValue := 0 }, { name := "e1", type := (.object "java/lang/Object"), accessFlags := 18, slot := 1, constantValue := 0 }]
  methods := #[k20m0, k20m1, k20m2]
  instanceTypes := #[(.object "java/lang/Object"), (.object "java/lang/Object")]
  staticTypes := #[]
  resolved := Array.replicate 125 none
  statics := none }

def pool21 : Array CpInfo := pool [(2, .class_ 4), (1, u "java/lang/Object"), (0, u "<init>"), (0, u "()V"), (35, .class_ 44), (1, u "java/util/Objects"), (0, u "requireNonNull"), (0, u "(Ljava/lang/Object;)Ljava/lang/Object;")] 137

def k21m0 : Method := { name := "<init>", desc := "()V", sig := { parameters := [], returnType := none }, accessFlags := 2, code := none }
def k21c1 : Code := { maxStack := 2, maxLocals := 1, code := jdk_31_method_10_code, exceptionTable := #[], attributes := #[] }
def k21m1 : Method := { name := "requireNonNull", desc := "(Ljava/lang/Object;)Ljava/lang/Object;", sig := { parameters := [(.object "java/lang/Object")], returnType := some (.object "java/lang/Object") }, accessFlags := 9, code := some k21c1 }
/-- java/util/Objects -/
def k21 : Class := { plain "java/util/Objects" (some 0) with
  accessFlags := 49
  interfaces := #[]
  cf := some (fileOf pool21 42 #[] #[{ accessFlags := 2, nameIndex := 5, descriptorIndex := 6, attributes := #[] }, { accessFlags := 9, nameIndex := 45, descriptorIndex := 46, attributes := #[] }] 49 2 #[] #[])
  fields := #[]
  methods := #[k21m0, k21m1]
  instanceTypes := #[]
  staticTypes := #[]
  resolved := Array.replicate 184 none
  statics := none }

def pool22 : Array CpInfo := pool [(1, u "java/lang/Cloneable"), (0, .class_ 1), (0, u "java/lang/Object"), (0, .class_ 3)] 3

/-- java/lang/Cloneable -/
def k22 : Class := { plain "java/lang/Cloneable" (some 0) with
  accessFlags := 1537
  interfaces := #[]
  cf := some (fileOf pool22 2 #[] #[] 1537 4 #[] #[])
  fields := #[]
  methods := #[]
  instanceTypes := #[]
  staticTypes := #[]
  resolved := Array.replicate 8 none
  statics := none }

/-- the primitive byte -/
def k23 : Class := { plain "byte" none with kind := .primitive 'B', accessFlags := 0x411 }
/-- [B -/
def k24 : Class := { plain "[B" (some 0) with kind := .array 23 .byte, interfaces := #[22, 12], accessFlags := 1041 }

/-- the primitive int -/
def k25 : Class := { plain "int" none with kind := .primitive 'I', accessFlags := 0x411 }
/-- [I -/
def k26 : Class := { plain "[I" (some 0) with kind := .array 25 .int, interfaces := #[22, 12], accessFlags := 1041 }

/-- [Ljava/lang/Integer; -/
def k27 : Class := { plain "[Ljava/lang/Integer;" (some 0) with kind := .array 18 (.object "java/lang/Integer"), interfaces := #[22, 12], accessFlags := 1041 }

/-- [Ljava/lang/Object; -/
def k28 : Class := { plain "[Ljava/lang/Object;" (some 0) with kind := .array 0 (.object "java/lang/Object"), interfaces := #[22, 12], accessFlags := 1041 }

def heap : Heap := #[{ cls := 7, slots := #[.long 0, .int 0, .null, .ref 261, .ref 260, .null, .null, .null, .int 0, .int 1], vm := .statics 7 },
  { cls := 19, slots := #[.int 0, .int 127, .ref 2, .null, .int 0], vm := .statics 19 },
  { cls := 27, slots := #[.ref 4, .ref 5, .ref 6, .ref 7, .ref 8, .ref 9, .ref 10, .ref 11, .ref 12, .ref 13, .ref 14, .ref 15, .ref 16, .ref 17, .ref 18, .ref 19, .ref 20, .ref 21, .ref 22, .ref 23, .ref 24, .ref 25, .ref 26, .ref 27, .ref 28, .ref 29, .ref 30, .ref 31, .ref 32, .ref 33, .ref 34, .ref 35, .ref 36, .ref 37, .ref 38, .ref 39, .ref 40, .ref 41, .ref 42, .ref 43, .ref 44, .ref 45, .ref 46, .ref 47, .ref 48, .ref 49, .ref 50, .ref 51, .ref 52, .ref 53, .ref 54, .ref 55, .ref 56, .ref 57, .ref 58, .ref 59, .ref 60, .ref 61, .ref 62, .ref 63, .ref 64, .ref 65, .ref 66, .ref 67, .ref 68, .ref 69, .ref 70, .ref 71, .ref 72, .ref 73, .ref 74, .ref 75, .ref 76, .ref 77, .ref 78, .ref 79, .ref 80, .ref 81, .ref 82, .ref 83, .ref 84, .ref 85, .ref 86, .ref 87, .ref 88, .ref 89, .ref 90, .ref 91, .ref 92, .ref 93, .ref 94, .ref 95, .ref 96, .ref 97, .ref 98, .ref 99, .ref 100, .ref 101, .ref 102, .ref 103, .ref 104, .ref 105, .ref 106, .ref 107, .ref 108, .ref 109, .ref 110, .ref 111, .ref 112, .ref 113, .ref 114, .ref 115, .ref 116, .ref 117, .ref 118, .ref 119, .ref 120, .ref 121, .ref 122, .ref 123, .ref 124, .ref 125, .ref 126, .ref 127, .ref 128, .ref 129, .ref 130, .ref 131, .ref 132, .ref 133, .ref 134, .ref 135, .ref 136, .ref 137, .ref 138, .ref 139, .ref 140, .ref 141, .ref 142, .ref 143, .ref 144, .ref 145, .ref 146, .ref 147, .ref 148, .ref 149, .ref 150, .ref 151, .ref 152, .ref 153, .ref 154, .ref 155, .ref 156, .ref 157, .ref 158, .ref 159, .ref 160, .ref 161, .ref 162, .ref 163, .ref 164, .ref 165, .ref 166, .ref 167, .ref 168, .ref 169, .ref 170, .ref 171, .ref 172, .ref 173, .ref 174, .ref 175, .ref 176, .ref 177, .ref 178, .ref 179, .ref 180, .ref 181, .ref 182, .ref 183, .ref 184, .ref 185, .ref 186, .ref 187, .ref 188, .ref 189, .ref 190, .ref 191, .ref 192, .ref 193, .ref 194, .ref 195, .ref 196, .ref 197, .ref 198, .ref 199, .ref 200, .ref 201, .ref 202, .ref 203, .ref 204, .ref 205, .ref 206, .ref 207, .ref 208, .ref 209, .ref 210, .ref 211, .ref 212, .ref 213, .ref 214, .ref 215, .ref 216, .ref 217, .ref 218, .ref 219, .ref 220, .ref 221, .ref 222, .ref 223, .ref 224, .ref 225, .ref 226, .ref 227, .ref 228, .ref 229, .ref 230, .ref 231, .ref 232, .ref 233, .ref 234, .ref 235, .ref 236, .ref 237, .ref 238, .ref 239, .ref 240, .ref 241, .ref 242, .ref 243, .ref 244, .ref 245, .ref 246, .ref 247, .ref 248, .ref 249, .ref 250, .ref 251, .ref 252, .ref 253, .ref 254, .ref 255, .ref 256, .ref 257, .ref 258, .ref 259], vm := .none },
  { cls := 28, slots := #[], vm := .none },
  { cls := 18, slots := #[.int (-128)], vm := .none },
  { cls := 18, slots := #[.int (-127)], vm := .none },
  { cls := 18, slots := #[.int (-126)], vm := .none },
  { cls := 18, slots := #[.int (-125)], vm := .none },
  { cls := 18, slots := #[.int (-124)], vm := .none },
  { cls := 18, slots := #[.int (-123)], vm := .none },
  { cls := 18, slots := #[.int (-122)], vm := .none },
  { cls := 18, slots := #[.int (-121)], vm := .none },
  { cls := 18, slots := #[.int (-120)], vm := .none },
  { cls := 18, slots := #[.int (-119)], vm := .none },
  { cls := 18, slots := #[.int (-118)], vm := .none },
  { cls := 18, slots := #[.int (-117)], vm := .none },
  { cls := 18, slots := #[.int (-116)], vm := .none },
  { cls := 18, slots := #[.int (-115)], vm := .none },
  { cls := 18, slots := #[.int (-114)], vm := .none },
  { cls := 18, slots := #[.int (-113)], vm := .none },
  { cls := 18, slots := #[.int (-112)], vm := .none },
  { cls := 18, slots := #[.int (-111)], vm := .none },
  { cls := 18, slots := #[.int (-110)], vm := .none },
  { cls := 18, slots := #[.int (-109)], vm := .none },
  { cls := 18, slots := #[.int (-108)], vm := .none },
  { cls := 18, slots := #[.int (-107)], vm := .none },
  { cls := 18, slots := #[.int (-106)], vm := .none },
  { cls := 18, slots := #[.int (-105)], vm := .none },
  { cls := 18, slots := #[.int (-104)], vm := .none },
  { cls := 18, slots := #[.int (-103)], vm := .none },
  { cls := 18, slots := #[.int (-102)], vm := .none },
  { cls := 18, slots := #[.int (-101)], vm := .none },
  { cls := 18, slots := #[.int (-100)], vm := .none },
  { cls := 18, slots := #[.int (-99)], vm := .none },
  { cls := 18, slots := #[.int (-98)], vm := .none },
  { cls := 18, slots := #[.int (-97)], vm := .none },
  { cls := 18, slots := #[.int (-96)], vm := .none },
  { cls := 18, slots := #[.int (-95)], vm := .none },
  { cls := 18, slots := #[.int (-94)], vm := .none },
  { cls := 18, slots := #[.int (-93)], vm := .none },
  { cls := 18, slots := #[.int (-92)], vm := .none },
  { cls := 18, slots := #[.int (-91)], vm := .none },
  { cls := 18, slots := #[.int (-90)], vm := .none },
  { cls := 18, slots := #[.int (-89)], vm := .none },
  { cls := 18, slots := #[.int (-88)], vm := .none },
  { cls := 18, slots := #[.int (-87)], vm := .none },
  { cls := 18, slots := #[.int (-86)], vm := .none },
  { cls := 18, slots := #[.int (-85)], vm := .none },
  { cls := 18, slots := #[.int (-84)], vm := .none },
  { cls := 18, slots := #[.int (-83)], vm := .none },
  { cls := 18, slots := #[.int (-82)], vm := .none },
  { cls := 18, slots := #[.int (-81)], vm := .none },
  { cls := 18, slots := #[.int (-80)], vm := .none },
  { cls := 18, slots := #[.int (-79)], vm := .none },
  { cls := 18, slots := #[.int (-78)], vm := .none },
  { cls := 18, slots := #[.int (-77)], vm := .none },
  { cls := 18, slots := #[.int (-76)], vm := .none },
  { cls := 18, slots := #[.int (-75)], vm := .none },
  { cls := 18, slots := #[.int (-74)], vm := .none },
  { cls := 18, slots := #[.int (-73)], vm := .none },
  { cls := 18, slots := #[.int (-72)], vm := .none },
  { cls := 18, slots := #[.int (-71)], vm := .none },
  { cls := 18, slots := #[.int (-70)], vm := .none },
  { cls := 18, slots := #[.int (-69)], vm := .none },
  { cls := 18, slots := #[.int (-68)], vm := .none },
  { cls := 18, slots := #[.int (-67)], vm := .none },
  { cls := 18, slots := #[.int (-66)], vm := .none },
  { cls := 18, slots := #[.int (-65)], vm := .none },
  { cls := 18, slots := #[.int (-64)], vm := .none },
  { cls := 18, slots := #[.int (-63)], vm := .none },
  { cls := 18, slots := #[.int (-62)], vm := .none },
  { cls := 18, slots := #[.int (-61)], vm := .none },
  { cls := 18, slots := #[.int (-60)], vm := .none },
  { cls := 18, slots := #[.int (-59)], vm := .none },
  { cls := 18, slots := #[.int (-58)], vm := .none },
  { cls := 18, slots := #[.int (-57)], vm := .none },
  { cls := 18, slots := #[.int (-56)], vm := .none },
  { cls := 18, slots := #[.int (-55)], vm := .none },
  { cls := 18, slots := #[.int (-54)], vm := .none },
  { cls := 18, slots := #[.int (-53)], vm := .none },
  { cls := 18, slots := #[.int (-52)], vm := .none },
  { cls := 18, slots := #[.int (-51)], vm := .none },
  { cls := 18, slots := #[.int (-50)], vm := .none },
  { cls := 18, slots := #[.int (-49)], vm := .none },
  { cls := 18, slots := #[.int (-48)], vm := .none },
  { cls := 18, slots := #[.int (-47)], vm := .none },
  { cls := 18, slots := #[.int (-46)], vm := .none },
  { cls := 18, slots := #[.int (-45)], vm := .none },
  { cls := 18, slots := #[.int (-44)], vm := .none },
  { cls := 18, slots := #[.int (-43)], vm := .none },
  { cls := 18, slots := #[.int (-42)], vm := .none },
  { cls := 18, slots := #[.int (-41)], vm := .none },
  { cls := 18, slots := #[.int (-40)], vm := .none },
  { cls := 18, slots := #[.int (-39)], vm := .none },
  { cls := 18, slots := #[.int (-38)], vm := .none },
  { cls := 18, slots := #[.int (-37)], vm := .none },
  { cls := 18, slots := #[.int (-36)], vm := .none },
  { cls := 18, slots := #[.int (-35)], vm := .none },
  { cls := 18, slots := #[.int (-34)], vm := .none },
  { cls := 18, slots := #[.int (-33)], vm := .none },
  { cls := 18, slots := #[.int (-32)], vm := .none },
  { cls := 18, slots := #[.int (-31)], vm := .none },
  { cls := 18, slots := #[.int (-30)], vm := .none },
  { cls := 18, slots := #[.int (-29)], vm := .none },
  { cls := 18, slots := #[.int (-28)], vm := .none },
  { cls := 18, slots := #[.int (-27)], vm := .none },
  { cls := 18, slots := #[.int (-26)], vm := .none },
  { cls := 18, slots := #[.int (-25)], vm := .none },
  { cls := 18, slots := #[.int (-24)], vm := .none },
  { cls := 18, slots := #[.int (-23)], vm := .none },
  { cls := 18, slots := #[.int (-22)], vm := .none },
  { cls := 18, slots := #[.int (-21)], vm := .none },
  { cls := 18, slots := #[.int (-20)], vm := .none },
  { cls := 18, slots := #[.int (-19)], vm := .none },
  { cls := 18, slots := #[.int (-18)], vm := .none },
  { cls := 18, slots := #[.int (-17)], vm := .none },
  { cls := 18, slots := #[.int (-16)], vm := .none },
  { cls := 18, slots := #[.int (-15)], vm := .none },
  { cls := 18, slots := #[.int (-14)], vm := .none },
  { cls := 18, slots := #[.int (-13)], vm := .none },
  { cls := 18, slots := #[.int (-12)], vm := .none },
  { cls := 18, slots := #[.int (-11)], vm := .none },
  { cls := 18, slots := #[.int (-10)], vm := .none },
  { cls := 18, slots := #[.int (-9)], vm := .none },
  { cls := 18, slots := #[.int (-8)], vm := .none },
  { cls := 18, slots := #[.int (-7)], vm := .none },
  { cls := 18, slots := #[.int (-6)], vm := .none },
  { cls := 18, slots := #[.int (-5)], vm := .none },
  { cls := 18, slots := #[.int (-4)], vm := .none },
  { cls := 18, slots := #[.int (-3)], vm := .none },
  { cls := 18, slots := #[.int (-2)], vm := .none },
  { cls := 18, slots := #[.int (-1)], vm := .none },
  { cls := 18, slots := #[.int (0)], vm := .none },
  { cls := 18, slots := #[.int (1)], vm := .none },
  { cls := 18, slots := #[.int (2)], vm := .none },
  { cls := 18, slots := #[.int (3)], vm := .none },
  { cls := 18, slots := #[.int (4)], vm := .none },
  { cls := 18, slots := #[.int (5)], vm := .none },
  { cls := 18, slots := #[.int (6)], vm := .none },
  { cls := 18, slots := #[.int (7)], vm := .none },
  { cls := 18, slots := #[.int (8)], vm := .none },
  { cls := 18, slots := #[.int (9)], vm := .none },
  { cls := 18, slots := #[.int (10)], vm := .none },
  { cls := 18, slots := #[.int (11)], vm := .none },
  { cls := 18, slots := #[.int (12)], vm := .none },
  { cls := 18, slots := #[.int (13)], vm := .none },
  { cls := 18, slots := #[.int (14)], vm := .none },
  { cls := 18, slots := #[.int (15)], vm := .none },
  { cls := 18, slots := #[.int (16)], vm := .none },
  { cls := 18, slots := #[.int (17)], vm := .none },
  { cls := 18, slots := #[.int (18)], vm := .none },
  { cls := 18, slots := #[.int (19)], vm := .none },
  { cls := 18, slots := #[.int (20)], vm := .none },
  { cls := 18, slots := #[.int (21)], vm := .none },
  { cls := 18, slots := #[.int (22)], vm := .none },
  { cls := 18, slots := #[.int (23)], vm := .none },
  { cls := 18, slots := #[.int (24)], vm := .none },
  { cls := 18, slots := #[.int (25)], vm := .none },
  { cls := 18, slots := #[.int (26)], vm := .none },
  { cls := 18, slots := #[.int (27)], vm := .none },
  { cls := 18, slots := #[.int (28)], vm := .none },
  { cls := 18, slots := #[.int (29)], vm := .none },
  { cls := 18, slots := #[.int (30)], vm := .none },
  { cls := 18, slots := #[.int (31)], vm := .none },
  { cls := 18, slots := #[.int (32)], vm := .none },
  { cls := 18, slots := #[.int (33)], vm := .none },
  { cls := 18, slots := #[.int (34)], vm := .none },
  { cls := 18, slots := #[.int (35)], vm := .none },
  { cls := 18, slots := #[.int (36)], vm := .none },
  { cls := 18, slots := #[.int (37)], vm := .none },
  { cls := 18, slots := #[.int (38)], vm := .none },
  { cls := 18, slots := #[.int (39)], vm := .none },
  { cls := 18, slots := #[.int (40)], vm := .none },
  { cls := 18, slots := #[.int (41)], vm := .none },
  { cls := 18, slots := #[.int (42)], vm := .none },
  { cls := 18, slots := #[.int (43)], vm := .none },
  { cls := 18, slots := #[.int (44)], vm := .none },
  { cls := 18, slots := #[.int (45)], vm := .none },
  { cls := 18, slots := #[.int (46)], vm := .none },
  { cls := 18, slots := #[.int (47)], vm := .none },
  { cls := 18, slots := #[.int (48)], vm := .none },
  { cls := 18, slots := #[.int (49)], vm := .none },
  { cls := 18, slots := #[.int (50)], vm := .none },
  { cls := 18, slots := #[.int (51)], vm := .none },
  { cls := 18, slots := #[.int (52)], vm := .none },
  { cls := 18, slots := #[.int (53)], vm := .none },
  { cls := 18, slots := #[.int (54)], vm := .none },
  { cls := 18, slots := #[.int (55)], vm := .none },
  { cls := 18, slots := #[.int (56)], vm := .none },
  { cls := 18, slots := #[.int (57)], vm := .none },
  { cls := 18, slots := #[.int (58)], vm := .none },
  { cls := 18, slots := #[.int (59)], vm := .none },
  { cls := 18, slots := #[.int (60)], vm := .none },
  { cls := 18, slots := #[.int (61)], vm := .none },
  { cls := 18, slots := #[.int (62)], vm := .none },
  { cls := 18, slots := #[.int (63)], vm := .none },
  { cls := 18, slots := #[.int (64)], vm := .none },
  { cls := 18, slots := #[.int (65)], vm := .none },
  { cls := 18, slots := #[.int (66)], vm := .none },
  { cls := 18, slots := #[.int (67)], vm := .none },
  { cls := 18, slots := #[.int (68)], vm := .none },
  { cls := 18, slots := #[.int (69)], vm := .none },
  { cls := 18, slots := #[.int (70)], vm := .none },
  { cls := 18, slots := #[.int (71)], vm := .none },
  { cls := 18, slots := #[.int (72)], vm := .none },
  { cls := 18, slots := #[.int (73)], vm := .none },
  { cls := 18, slots := #[.int (74)], vm := .none },
  { cls := 18, slots := #[.int (75)], vm := .none },
  { cls := 18, slots := #[.int (76)], vm := .none },
  { cls := 18, slots := #[.int (77)], vm := .none },
  { cls := 18, slots := #[.int (78)], vm := .none },
  { cls := 18, slots := #[.int (79)], vm := .none },
  { cls := 18, slots := #[.int (80)], vm := .none },
  { cls := 18, slots := #[.int (81)], vm := .none },
  { cls := 18, slots := #[.int (82)], vm := .none },
  { cls := 18, slots := #[.int (83)], vm := .none },
  { cls := 18, slots := #[.int (84)], vm := .none },
  { cls := 18, slots := #[.int (85)], vm := .none },
  { cls := 18, slots := #[.int (86)], vm := .none },
  { cls := 18, slots := #[.int (87)], vm := .none },
  { cls := 18, slots := #[.int (88)], vm := .none },
  { cls := 18, slots := #[.int (89)], vm := .none },
  { cls := 18, slots := #[.int (90)], vm := .none },
  { cls := 18, slots := #[.int (91)], vm := .none },
  { cls := 18, slots := #[.int (92)], vm := .none },
  { cls := 18, slots := #[.int (93)], vm := .none },
  { cls := 18, slots := #[.int (94)], vm := .none },
  { cls := 18, slots := #[.int (95)], vm := .none },
  { cls := 18, slots := #[.int (96)], vm := .none },
  { cls := 18, slots := #[.int (97)], vm := .none },
  { cls := 18, slots := #[.int (98)], vm := .none },
  { cls := 18, slots := #[.int (99)], vm := .none },
  { cls := 18, slots := #[.int (100)], vm := .none },
  { cls := 18, slots := #[.int (101)], vm := .none },
  { cls := 18, slots := #[.int (102)], vm := .none },
  { cls := 18, slots := #[.int (103)], vm := .none },
  { cls := 18, slots := #[.int (104)], vm := .none },
  { cls := 18, slots := #[.int (105)], vm := .none },
  { cls := 18, slots := #[.int (106)], vm := .none },
  { cls := 18, slots := #[.int (107)], vm := .none },
  { cls := 18, slots := #[.int (108)], vm := .none },
  { cls := 18, slots := #[.int (109)], vm := .none },
  { cls := 18, slots := #[.int (110)], vm := .none },
  { cls := 18, slots := #[.int (111)], vm := .none },
  { cls := 18, slots := #[.int (112)], vm := .none },
  { cls := 18, slots := #[.int (113)], vm := .none },
  { cls := 18, slots := #[.int (114)], vm := .none },
  { cls := 18, slots := #[.int (115)], vm := .none },
  { cls := 18, slots := #[.int (116)], vm := .none },
  { cls := 18, slots := #[.int (117)], vm := .none },
  { cls := 18, slots := #[.int (118)], vm := .none },
  { cls := 18, slots := #[.int (119)], vm := .none },
  { cls := 18, slots := #[.int (120)], vm := .none },
  { cls := 18, slots := #[.int (121)], vm := .none },
  { cls := 18, slots := #[.int (122)], vm := .none },
  { cls := 18, slots := #[.int (123)], vm := .none },
  { cls := 18, slots := #[.int (124)], vm := .none },
  { cls := 18, slots := #[.int (125)], vm := .none },
  { cls := 18, slots := #[.int (126)], vm := .none },
  { cls := 18, slots := #[.int (127)], vm := .none },
  { cls := 13, slots := #[.ref 3, .int 0], vm := .none },
  { cls := 0, slots := #[], vm := .none }]
def classes : Array Class := #[k0, k1, k2, k3, k4, k5, k6, k7, k8, k9, k10, k11, k12, k13, k14, k15, k16, k17, k18, k19, k20, k21, k22, k23, k24, k25, k26, k27, k28]
def interned : List (Array UInt16 × Addr) := []
def slotsUsed : Nat := 529
def theMethod : MethodId := ⟨1, 1⟩
def args0 : Array Value := #[.int 3, .int 4]
def aboutOver (below : List Frame) : State where
  vm := { classes := classes, interned := interned.toArray }
  heap := heap
  slotsUsed := slotsUsed
  threads := #[{ frames := .invoking theMethod args0 :: below }]
def below0 : List Frame := [.native { method := ⟨0, 0⟩, args := #[] }]
def about1 : State := aboutOver below0
def p0 : Program := .bare "" "" ""
def e0 : Env := launch0.env 0 0 0
theorem w_frames : about1.frames = Frame.invoking theMethod args0 :: below0 := rfl
set_option maxRecDepth 65536 in
theorem w_args : argsFit about1.vm theMethod args0 = true := by decide +kernel
set_option maxRecDepth 65536 in
theorem w_heap : heapFits about1 = true := by decide +kernel
set_option maxRecDepth 65536 in
theorem w_runnable : about1.curStatus? = some .runnable := by decide +kernel
set_option maxRecDepth 65536 in
theorem w_alone : about1.alone = true := by decide +kernel
set_option maxRecDepth 65536 in
theorem w_named : about1.methodNamed? x = some theMethod := by decide +kernel
set_option maxRecDepth 65536 in
theorem w_hears : about1.hears theMethod below0 = true := by decide +kernel
set_option maxRecDepth 65536 in
theorem w_ripe : about1.ripe theMethod args0 below0 = true := by decide +kernel
theorem w_running : about1.status = .running := rfl
set_option maxRecDepth 65536 in
theorem w_room : about1.hasRoom e0.platform room_1 = true :=
  launch0.hasRoom_least _ room_1 (by decide +kernel) (by decide +kernel) (by decide +kernel) (by decide +kernel) (by decide +kernel) (by decide +kernel)
theorem allAtoms_all (ts : List Jvm.Cond) (a : Array Jvm.Value) (st : Jvm.State) : (allAtoms ts).before a st = ts.all (fun c => c.before a st) := by
  induction ts with
  | nil => rfl
  | cons c t ih =>
    show (Jvm.Cond.and c (allAtoms t)).before a st = _
    rw [Jvm.Cond.before_and, ih, List.all_cons]
def words1 : List Jvm.Cond := Jvm.Cond.code x code maxLocals ret :: tables_1
/-- a 'code' word, met by the world's own term for the bytes: nothing is compared byte by byte -/
theorem code_word {y : MethodName} {bytes : ByteArray} {mx : Nat} {rt : Option FieldType} {a : Array Value} {s : State} {m : MethodId} {meth : Method} {c : Code} (h1 : s.methodNamed? y = some m) (h2 : s.vm.method? m = some meth) (h3 : meth.code = some c) (h4 : c.code = bytes)
    (h5 : (c.maxLocals == mx && c.exceptionTable.isEmpty && decide (c.maxStack ≤ mostOperands) && decide (meth.sig.returnType = rt) && !meth.locks && decide (parseMethodDescriptor y.desc = some meth.sig)) = true) : (Jvm.Cond.code y bytes mx rt).before a s = true := by
  simp only [Bool.and_eq_true, beq_iff_eq, Bool.not_eq_true', decide_eq_true_eq] at h5
  obtain ⟨⟨⟨⟨⟨g1, g2⟩, g3⟩, g4⟩, g5⟩, g6⟩ := h5
  simp [Cond.before, Cond.holds, Cond.value, h1, h2, h3, h4, g1, g2, g3, g4, g5, g6]
def isCode : Jvm.Cond → Bool
  | .code _ _ _ _ => true
  | _ => false
theorem all_split {L : List Jvm.Cond} {P : Jvm.Cond → Bool} (h1 : L.all (fun c => isCode c || P c) = true) (h2 : ∀ c ∈ L.filter isCode, P c = true) : L.all P = true := by
  refine List.all_eq_true.mpr fun c hc => ?_
  have h := List.all_eq_true.mp h1 c hc
  rcases Bool.eq_false_or_eq_true (isCode c) with hi | hi
  · exact h2 c (List.mem_filter.mpr ⟨hc, hi⟩)
  · simpa [hi] using h
set_option maxRecDepth 65536 in
theorem w_c0 : (Jvm.Cond.code x code maxLocals ret).before args0 about1 = true := code_word (m := ⟨1, 1⟩) (meth := k1m1) (c := k1c1) (by decide +kernel) rfl rfl rfl (by decide +kernel)
set_option maxRecDepth 65536 in
theorem w_c1 : (Jvm.Cond.code ({ cls := "com/example/affix/affix/bench/StartupGraph", name := "fields", desc := "(I)Ljava/util/List;" } : Jvm.MethodName) prog_19_method_3_code (1 : Nat) (Option.some (Jvm.ClassFile.FieldType.object "java/util/List"))).before args0 about1 = true := code_word (m := ⟨2, 1⟩) (meth := k2m1) (c := k2c1) (by decide +kernel) rfl rfl rfl (by decide +kernel)
set_option maxRecDepth 65536 in
theorem w_c2 : (Jvm.Cond.code ({ cls := "java/util/List", name := "of", desc := "()Ljava/util/List;" } : Jvm.MethodName) jdk_40_method_36_code (0 : Nat) (Option.some (Jvm.ClassFile.FieldType.object "java/util/List"))).before args0 about1 = true := code_word (m := ⟨6, 2⟩) (meth := k6m2) (c := k6c2) (by decide +kernel) rfl rfl rfl (by decide +kernel)
set_option maxRecDepth 65536 in
theorem w_c3 : (Jvm.Cond.code ({ cls := "java/util/ImmutableCollections$ListN", name := "size", desc := "()I" } : Jvm.MethodName) jdk_45_method_3_code (1 : Nat) (Option.some Jvm.ClassFile.FieldType.int)).before args0 about1 = true := code_word (m := ⟨13, 0⟩) (meth := k13m0) (c := k13c0) (by decide +kernel) rfl rfl rfl (by decide +kernel)
set_option maxRecDepth 65536 in
theorem w_c4 : (Jvm.Cond.code ({ cls := "java/lang/Integer", name := "valueOf", desc := "(I)Ljava/lang/Integer;" } : Jvm.MethodName) jdk_33_method_22_code (1 : Nat) (Option.some (Jvm.ClassFile.FieldType.object "java/lang/Integer"))).before args0 about1 = true := code_word (m := ⟨18, 0⟩) (meth := k18m0) (c := k18c0) (by decide +kernel) rfl rfl rfl (by decide +kernel)
set_option maxRecDepth 65536 in
theorem w_c5 : (Jvm.Cond.code ({ cls := "java/util/List", name := "of", desc := "(Ljava/lang/Object;)Ljava/util/List;" } : Jvm.MethodName) jdk_40_method_37_code (1 : Nat) (Option.some (Jvm.ClassFile.FieldType.object "java/util/List"))).before args0 about1 = true := code_word (m := ⟨6, 3⟩) (meth := k6m3) (c := k6c3) (by decide +kernel) rfl rfl rfl (by decide +kernel)
set_option maxRecDepth 65536 in
theorem w_c6 : (Jvm.Cond.code ({ cls := "java/util/ImmutableCollections$List12", name := "<init>", desc := "(Ljava/lang/Object;)V" } : Jvm.MethodName) jdk_44_method_1_code (2 : Nat) (Option.none : Option Jvm.ClassFile.FieldType)).before args0 about1 = true := code_word (m := ⟨20, 0⟩) (meth := k20m0) (c := k20c0) (by decide +kernel) rfl rfl rfl (by decide +kernel)
set_option maxRecDepth 65536 in
theorem w_c7 : (Jvm.Cond.code ({ cls := "java/util/ImmutableCollections$AbstractImmutableList", name := "<init>", desc := "()V" } : Jvm.MethodName) jdk_46_method_1_code (1 : Nat) (Option.none : Option Jvm.ClassFile.FieldType)).before args0 about1 = true := code_word (m := ⟨11, 0⟩) (meth := k11m0) (c := k11c0) (by decide +kernel) rfl rfl rfl (by decide +kernel)
set_option maxRecDepth 65536 in
theorem w_c8 : (Jvm.Cond.code ({ cls := "java/util/ImmutableCollections$AbstractImmutableCollection", name := "<init>", desc := "()V" } : Jvm.MethodName) jdk_47_method_1_code (1 : Nat) (Option.none : Option Jvm.ClassFile.FieldType)).before args0 about1 = true := code_word (m := ⟨9, 0⟩) (meth := k9m0) (c := k9c0) (by decide +kernel) rfl rfl rfl (by decide +kernel)
set_option maxRecDepth 65536 in
theorem w_c9 : (Jvm.Cond.code ({ cls := "java/util/AbstractCollection", name := "<init>", desc := "()V" } : Jvm.MethodName) jdk_22_method_1_code (1 : Nat) (Option.none : Option Jvm.ClassFile.FieldType)).before args0 about1 = true := code_word (m := ⟨8, 0⟩) (meth := k8m0) (c := k8c0) (by decide +kernel) rfl rfl rfl (by decide +kernel)
set_option maxRecDepth 65536 in
theorem w_c10 : (Jvm.Cond.code ({ cls := "java/lang/Object", name := "<init>", desc := "()V" } : Jvm.MethodName) object_method_1_code (1 : Nat) (Option.none : Option Jvm.ClassFile.FieldType)).before args0 about1 = true := code_word (m := ⟨0, 0⟩) (meth := k0m0) (c := k0c0) (by decide +kernel) rfl rfl rfl (by decide +kernel)
set_option maxRecDepth 65536 in
theorem w_c11 : (Jvm.Cond.code ({ cls := "java/util/Objects", name := "requireNonNull", desc := "(Ljava/lang/Object;)Ljava/lang/Object;" } : Jvm.MethodName) jdk_31_method_10_code (1 : Nat) (Option.some (Jvm.ClassFile.FieldType.object "java/lang/Object"))).before args0 about1 = true := code_word (m := ⟨21, 1⟩) (meth := k21m1) (c := k21c1) (by decide +kernel) rfl rfl rfl (by decide +kernel)
set_option maxRecDepth 65536 in
theorem w_c12 : (Jvm.Cond.code ({ cls := "java/util/ImmutableCollections$List12", name := "size", desc := "()I" } : Jvm.MethodName) jdk_44_method_3_code (1 : Nat) (Option.some Jvm.ClassFile.FieldType.int)).before args0 about1 = true := code_word (m := ⟨20, 1⟩) (meth := k20m1) (c := k20c1) (by decide +kernel) rfl rfl rfl (by decide +kernel)
set_option maxRecDepth 65536 in
theorem w_c13 : (Jvm.Cond.code ({ cls := "java/util/ImmutableCollections$List12", name := "get", desc := "(I)Ljava/lang/Object;" } : Jvm.MethodName) jdk_44_method_5_code (2 : Nat) (Option.some (Jvm.ClassFile.FieldType.object "java/lang/Object"))).before args0 about1 = true := code_word (m := ⟨20, 2⟩) (meth := k20m2) (c := k20c2) (by decide +kernel) rfl rfl rfl (by decide +kernel)
set_option maxRecDepth 65536 in
theorem w_c14 : (Jvm.Cond.code ({ cls := "java/lang/Integer", name := "intValue", desc := "()I" } : Jvm.MethodName) jdk_33_method_27_code (1 : Nat) (Option.some Jvm.ClassFile.FieldType.int)).before args0 about1 = true := code_word (m := ⟨18, 2⟩) (meth := k18m2) (c := k18c2) (by decide +kernel) rfl rfl rfl (by decide +kernel)
set_option maxRecDepth 65536 in
theorem w_c15 : (Jvm.Cond.code ({ cls := "java/lang/Integer", name := "<init>", desc := "(I)V" } : Jvm.MethodName) jdk_33_method_23_code (2 : Nat) (Option.none : Option Jvm.ClassFile.FieldType)).before args0 about1 = true := code_word (m := ⟨18, 1⟩) (meth := k18m1) (c := k18c1) (by decide +kernel) rfl rfl rfl (by decide +kernel)
set_option maxRecDepth 65536 in
theorem w_c16 : (Jvm.Cond.code ({ cls := "java/lang/Number", name := "<init>", desc := "()V" } : Jvm.MethodName) jdk_18_method_1_code (1 : Nat) (Option.none : Option Jvm.ClassFile.FieldType)).before args0 about1 = true := code_word (m := ⟨14, 0⟩) (meth := k14m0) (c := k14c0) (by decide +kernel) rfl rfl rfl (by decide +kernel)
def codes1 : List Jvm.Cond := [Jvm.Cond.code x code maxLocals ret, Jvm.Cond.code ({ cls := "com/example/affix/affix/bench/StartupGraph", name := "fields", desc := "(I)Ljava/util/List;" } : Jvm.MethodName) prog_19_method_3_code (1 : Nat) (Option.some (Jvm.ClassFile.FieldType.object "java/util/List")), Jvm.Cond.code ({ cls := "java/util/List", name := "of", desc := "()Ljava/util/List;" } : Jvm.MethodName) jdk_40_method_36_code (0 : Nat) (Option.some (Jvm.ClassFile.FieldType.object "java/util/List")), Jvm.Cond.code ({ cls := "java/util/ImmutableCollections$ListN", name := "size", desc := "()I" } : Jvm.MethodName) jdk_45_method_3_code (1 : Nat) (Option.some Jvm.ClassFile.FieldType.int), Jvm.Cond.code ({ cls := "java/lang/Integer", name := "valueOf", desc := "(I)Ljava/lang/Integer;" } : Jvm.MethodName) jdk_33_method_22_code (1 : Nat) (Option.some (Jvm.ClassFile.FieldType.object "java/lang/Integer")), Jvm.Cond.code ({ cls := "java/util/List", name := "of", desc := "(Ljava/lang/Object;)Ljava/util/List;" } : Jvm.MethodName) jdk_40_method_37_code (1 : Nat) (Option.some (Jvm.ClassFile.FieldType.object "java/util/List")), Jvm.Cond.code ({ cls := "java/util/ImmutableCollections$List12", name := "<init>", desc := "(Ljava/lang/Object;)V" } : Jvm.MethodName) jdk_44_method_1_code (2 : Nat) (Option.none : Option Jvm.ClassFile.FieldType), Jvm.Cond.code ({ cls := "java/util/ImmutableCollections$AbstractImmutableList", name := "<init>", desc := "()V" } : Jvm.MethodName) jdk_46_method_1_code (1 : Nat) (Option.none : Option Jvm.ClassFile.FieldType), Jvm.Cond.code ({ cls := "java/util/ImmutableCollections$AbstractImmutableCollection", name := "<init>", desc := "()V" } : Jvm.MethodName) jdk_47_method_1_code (1 : Nat) (Option.none : Option Jvm.ClassFile.FieldType), Jvm.Cond.code ({ cls := "java/util/AbstractCollection", name := "<init>", desc := "()V" } : Jvm.MethodName) jdk_22_method_1_code (1 : Nat) (Option.none : Option Jvm.ClassFile.FieldType), Jvm.Cond.code ({ cls := "java/lang/Object", name := "<init>", desc := "()V" } : Jvm.MethodName) object_method_1_code (1 : Nat) (Option.none : Option Jvm.ClassFile.FieldType), Jvm.Cond.code ({ cls := "java/util/Objects", name := "requireNonNull", desc := "(Ljava/lang/Object;)Ljava/lang/Object;" } : Jvm.MethodName) jdk_31_method_10_code (1 : Nat) (Option.some (Jvm.ClassFile.FieldType.object "java/lang/Object")), Jvm.Cond.code ({ cls := "java/util/ImmutableCollections$List12", name := "size", desc := "()I" } : Jvm.MethodName) jdk_44_method_3_code (1 : Nat) (Option.some Jvm.ClassFile.FieldType.int), Jvm.Cond.code ({ cls := "java/util/ImmutableCollections$List12", name := "get", desc := "(I)Ljava/lang/Object;" } : Jvm.MethodName) jdk_44_method_5_code (2 : Nat) (Option.some (Jvm.ClassFile.FieldType.object "java/lang/Object")), Jvm.Cond.code ({ cls := "java/lang/Integer", name := "intValue", desc := "()I" } : Jvm.MethodName) jdk_33_method_27_code (1 : Nat) (Option.some Jvm.ClassFile.FieldType.int), Jvm.Cond.code ({ cls := "java/lang/Integer", name := "<init>", desc := "(I)V" } : Jvm.MethodName) jdk_33_method_23_code (2 : Nat) (Option.none : Option Jvm.ClassFile.FieldType), Jvm.Cond.code ({ cls := "java/lang/Number", name := "<init>", desc := "()V" } : Jvm.MethodName) jdk_18_method_1_code (1 : Nat) (Option.none : Option Jvm.ClassFile.FieldType)]
set_option maxRecDepth 65536 in
theorem codes_eq : words1.filter isCode = codes1 := rfl
theorem w_codes : ∀ c ∈ words1.filter isCode, c.before args0 about1 = true := by
  rw [codes_eq]
  intro c hc
  simp only [codes1, List.mem_cons, List.not_mem_nil, or_false] at hc
  rcases hc with rfl | rfl | rfl | rfl | rfl | rfl | rfl | rfl | rfl | rfl | rfl | rfl | rfl | rfl | rfl | rfl | rfl
  · exact w_c0
  · exact w_c1
  · exact w_c2
  · exact w_c3
  · exact w_c4
  · exact w_c5
  · exact w_c6
  · exact w_c7
  · exact w_c8
  · exact w_c9
  · exact w_c10
  · exact w_c11
  · exact w_c12
  · exact w_c13
  · exact w_c14
  · exact w_c15
  · exact w_c16
set_option maxRecDepth 65536 in
theorem w_t1 : (words1.take 24).all (fun c => isCode c || c.before args0 about1) = true := by decide +kernel
set_option maxRecDepth 65536 in
theorem w_t2 : ((words1.drop 24).take 24).all (fun c => isCode c || c.before args0 about1) = true := by decide +kernel
set_option maxRecDepth 65536 in
theorem w_t3 : (((words1.drop 24).drop 24).take 24).all (fun c => isCode c || c.before args0 about1) = true := by decide +kernel
set_option maxRecDepth 65536 in
theorem w_t4 : ((((words1.drop 24).drop 24).drop 24).take 24).all (fun c => isCode c || c.before args0 about1) = true := by decide +kernel
set_option maxRecDepth 65536 in
theorem w_t5 : ((((words1.drop 24).drop 24).drop 24).drop 24).all (fun c => isCode c || c.before args0 about1) = true := by decide +kernel
theorem w_tables : (allAtoms (Jvm.Cond.code x code maxLocals ret :: tables_1)).before args0 about1 = true := by
  rw [allAtoms_all]
  show words1.all (fun c => c.before args0 about1) = true
  refine all_split ?_ w_codes
  rw [← List.take_append_drop 24 words1, List.all_append, w_t1, ← List.take_append_drop 24 (words1.drop 24), List.all_append, w_t2, ← List.take_append_drop 24 ((words1.drop 24).drop 24), List.all_append, w_t3, ← List.take_append_drop 24 (((words1.drop 24).drop 24).drop 24), List.all_append, w_t4, w_t5]
  rfl
set_option maxRecDepth 65536 in
theorem w_rest : rest_1_c.before args0 about1 = true := by decide +kernel
set_option maxRecDepth 65536 in
theorem w_case : (Jvm.Cond.and given_1 narrow_1).before args0 about1 = true := by decide +kernel
theorem w_applies : (headSpec (Jvm.Cond.code x code maxLocals ret :: tables_1) room_1).applies x e0.platform about1 = true :=
  (Spec.applies_iff w_frames).mpr ⟨w_running, w_runnable, w_alone, w_named, w_hears, w_ripe, w_room, w_tables⟩
theorem atStart : AtStart classFile x code maxLocals ret World_1 tables_1 room_1 Calls_1 rest_1 Pre_1 launch0 p0 e0 about1 theMethod args0 below0 :=
  ⟨lists_1, trivial, launch0.admits_env _ _ _, launch0.least_env, fairChoices_fair.cas, fairChoices_fair.clock, w_frames, w_args, w_heap, w_applies, trivial, w_rest, w_case⟩
end start1
theorem witness_1 : WitnessClaimed_1 := ⟨start1.p0, start1.e0, start1.about1, start1.theMethod, start1.args0, start1.below0, start1.atStart⟩
end Jvm.Pilot.@@N@@
