import JvmDerived
import JvmDerived.Pilot.@@N@@Statement
import JvmDerived.Pilot.@@N@@Code
set_option linter.unusedVariables false
set_option linter.unusedSimpArgs false
namespace Jvm.RoadKit
open Sem ClassFile Op Lib Jvm.Stand Jvm.Free Jvm.LawKit
section New
variable {p : Program} {l : Launch} {e : Env} {R : Room} {s : State} {m : MethodId} {args : Array Value} {below : List Frame} {meth : Method} {c : Code} {T : State} {locs : List Loc} {cells slots : Nat}
theorem retI (X : Stand p l e R s m args below meth c T locs cells slots) (hx : p.tables.exec = Jvm.exec) {pc : Nat} {Ls : Array Slot} {z : Int32} {rest : List Value} (hret : meth.sig.returnType = some .int) (hd : decode c.code pc = .ok (.ireturn, 1)) {fs : List Frame}
    (hl : ∀ (f : JFrame) (acts : List Action), f.method = m → f.locked = none → f.entered = [] → (doReturn e (T.setTop f) acts (some (.int z))).1 = T.setFrames fs) : Steps p.tables e below (T.setTop (mkF m pc Ls (.int z :: rest))) (T.setFrames fs) := by
  have hm' : T.vm.method? m = some meth := X.method'
  have hn : narrow .int (.int z) = .int z := rfl
  show Steps p.tables e below (T.setTop { method := m, pc := pc, locals := Ls, stack := _ :: rest, locked := none }) _
  jvm_step X.here [X.here.top, hx, hd, hm', hret, hn]
  first | (intro acts; rw [hl _ acts rfl rfl rfl]) | rw [hl _ _ rfl rfl rfl]
  exact Steps.refl _
end New
end Jvm.RoadKit
namespace Jvm.Pilot.@@N@@
open Jvm Jvm.ClassFile Sem Op Lib Jvm.Free Jvm.Stand Jvm.LawKit Jvm.RoadKit Bundle Jvm.Pilot.@@N@@.Jvm.D
theorem own_nar {x : Int32} (h : x = (0 : Int32) ∨ x = (1 : Int32)) : narrow .boolean (.int x) = .int x := by rcases h with rfl | rfl <;> rfl
theorem own_fit {x : Int32} (h : x = (0 : Int32) ∨ x = (1 : Int32)) : fits .boolean (.int x) = true := by rcases h with rfl | rfl <;> rfl
theorem own_or {q : Int64} {p : Int32} (hq : 0 ≤ q.toInt) (hp : 0 ≤ p.toInt) : ¬ (lcmpW (q ||| p.toInt64) (0 : Int64) < (0 : Int32)) := by
  have h := (c_orSL q p.toInt64).1 hq (by rw [c_i2l]; exact hp)
  have e0 : (0 : Int64).toInt = 0 := by decide
  rw [lw_lt, Int64.lt_iff_toInt_lt, e0]
  omega
theorem own_u (q : Int64) : 0 ≤ (q &&& (9223372036854775807 : Int64)).toInt := (c_andSL q 9223372036854775807).2.2 (by decide)
theorem own_s (p : Int32) : 0 ≤ (p &&& (2147483647 : Int32)).toInt := (c_andS p 2147483647).2.2 (by decide)
theorem own_x1 (q : Int64) : 0 ≤ ((q &&& (9223372036854775807 : Int64)) ^^^ (1 : Int64)).toInt := (c_xorSL _ 1).2.2.2 (own_u q) (by decide)
theorem own_x2 (q : Int64) : 0 ≤ ((q &&& (9223372036854775807 : Int64)) ^^^ (2 : Int64)).toInt := (c_xorSL _ 2).2.2.2 (own_u q) (by decide)
theorem pn_com_example_strikeshift_strikeshift_decimal_Decimal : plainName "com/example/strikeshift/strikeshift/decimal/Decimal" = true := by first | (simp [plainName, overriddenIn]; done) | decide +kernel
theorem ef_3 (m : MethodId) (x0 : Addr) : entryFrame m #[(.ref x0)] 1 = mkF m 0 #[.val (.ref x0)] [] := by first | (simp [entryFrame, mkF, argsToLocals, Value.category]; done) | rfl
theorem d3_0 : decode prog_26_method_1_code 0 = .ok (.aload_n 0, 1) := by decide +kernel
theorem d3_1 : decode prog_26_method_1_code 1 = .ok (.invokespecial 1, 3) := by decide +kernel
theorem d3_4 : decode prog_26_method_1_code 4 = .ok (.return_, 1) := by decide +kernel
def Q_rm3 (Z : State) (a1 : Addr) (h0 : Heap) (n0 : Nat) (v : Option Value) (h : Heap) (L : List Loc) : Prop := v = none ∧ Fr n0 L ∧ h = h0
set_option maxRecDepth 65536 in
set_option maxHeartbeats 40000000 in
theorem rm3 (l : Launch) (Z : State) (a0 : Array Value) (hw : ∀ d ∈ tables_1, d.before a0 Z = true) (ws : List Jvm.Cond) (a1 : Addr) (h0 : Heap) (n0 : Nat) (Z0 : n0 ≤ h0.size)  :
    MetFree l (⟨"com/example/strikeshift/strikeshift/decimal/Decimal", "<init>", "()V"⟩ : MethodName) (head1 (Jvm.Cond.code (⟨"com/example/strikeshift/strikeshift/decimal/Decimal", "<init>", "()V"⟩ : MethodName) prog_26_method_1_code 1 none :: ws) ({ frames := 1, cells := 0, slots := 0, locals := 12 } : Room)) (fun a U => a = #[(.ref a1)] ∧ Z.Warmed39 U.vm ∧ U.heap = h0) (fun _ _ _ _ _ => True) (fun _ U o U' => ∃ v L, o = .returned v ∧ Q_rm3 Z a1 h0 n0 v U'.heap L ∧ FrameEnd U o U' L ({ frames := 1, cells := 0, slots := 0, locals := 12 } : Room).cells ({ frames := 1, cells := 0, slots := 0, locals := 12 } : Room).slots) := by
  refine MetFree.of_bodySF (plainFor_of_name pn_com_example_strikeshift_strikeshift_decimal_Decimal) hisR ?_
  intro p e s m args below meth c s₁ Bd hml0 hP hK
  obtain ⟨rfl, hZ, hh⟩ := hP
  have hx := Bd.exec
  have hby := Bd.bytes
  have hml : c.maxLocals = 1 := hml0
  have hown : s.vm.findClass "com/example/strikeshift/strikeshift/decimal/Decimal" = some m.cls := findClass_of_methodNamed Bd.named
  have hnm := (name_of_methodNamed Bd.named Bd.method).1
  have X0 : Stand p l e ({ frames := 1, cells := 0, slots := 0, locals := 12 } : Room) s m #[(.ref a1)] below meth c s₁ [] 0 0 := Stand.of_body Bd
  have e0 : s₁.heap = h0 := by rw [← hh, Bd.state]; rfl
  have N0 := Fr.nil n0
  have pre0 : ∀ t, Steps p.tables e below (s₁.setTop (mkF m 0 #[.val (.ref a1)] [])) t → Steps p.tables e below (s₁.setTop (entryFrame m #[(.ref a1)] 1)) t := fun t k => castTop (ef_3 m a1) k
  obtain ⟨S0, hS0⟩ : ∃ S, S = s₁.setTop (entryFrame m #[(.ref a1)] 1) := ⟨_, rfl⟩
  rw [← hS0] at pre0 ⊢
  obtain ⟨T1, X1, e1, st1⟩ := initO X0 hx hZ hown (hw _ (List.mem_of_getElem? (i := 17) rfl)) (hw _ (List.mem_of_getElem? (i := 9) rfl)) (hw _ (List.mem_of_getElem? (i := 10) rfl)) e0 (g := (mkF m 1 #[.val (.ref a1)] [(.ref a1)])) rfl (by rw [hml]; rfl) rfl (hb hby d3_1) (by decide) (W := 0) (by show 2 * 0 + _ ≤ _; exact Nat.le_of_eq rfl) (by decide)
  obtain ⟨fs, hr, hrun, hended, hW, hsame⟩ := X1.leave (v := none) (fun _ => rfl)
  refine ⟨_, _, pre0 _ ?_, hrun, hended, _, _, rfl, ?_, ⟨_, rfl⟩, hW, hsame.mono (by decide) (by decide)⟩
  · show Steps p.tables e below (s₁.setTop (mkF m 0 #[.val (.ref a1)] [])) _
    refine XS.aloadN X0.here hx rfl (hb hby d3_0) rfl rfl ?_
    show Steps p.tables e below (s₁.setTop (mkF m 1 #[.val (.ref a1)] [(.ref a1)])) _
    refine st1 _ ?_
    show Steps p.tables e below (T1.setTop (mkF m 4 #[.val (.ref a1)] [])) _
    exact X1.returnOut hx Bd.returns (hb hby d3_4) hr
  · show Q_rm3 Z a1 h0 n0 _ T1.heap _
    rw [e1]
    exact ⟨rfl, N0, rfl⟩
theorem ef_4 (m : MethodId) (x0 : Addr) (x1 : Int64) (x2 : Int32) : entryFrame m #[(.ref x0), (.long x1), (.int x2)] 4 = mkF m 0 #[.val (.ref x0), .val (.long x1), .second, .val (.int x2)] [] := by first | (simp [entryFrame, mkF, argsToLocals, Value.category]; done) | rfl
theorem d4_0 : decode prog_26_method_2_code 0 = .ok (.lload_n 1, 1) := by decide +kernel
theorem d4_1 : decode prog_26_method_2_code 1 = .ok (.iload_n 3, 1) := by decide +kernel
theorem d4_2 : decode prog_26_method_2_code 2 = .ok (.i2l, 1) := by decide +kernel
theorem d4_3 : decode prog_26_method_2_code 3 = .ok (.lor, 1) := by decide +kernel
theorem d4_4 : decode prog_26_method_2_code 4 = .ok (.lconst 0, 1) := by decide +kernel
theorem d4_5 : decode prog_26_method_2_code 5 = .ok (.lcmp, 1) := by decide +kernel
theorem d4_6 : decode prog_26_method_2_code 6 = .ok (.ifCond .ge 9, 3) := by decide +kernel
theorem d4_15 : decode prog_26_method_2_code 15 = .ok (.aload_n 0, 1) := by decide +kernel
theorem d4_16 : decode prog_26_method_2_code 16 = .ok (.lload_n 1, 1) := by decide +kernel
theorem d4_17 : decode prog_26_method_2_code 17 = .ok (.putfield 13, 3) := by decide +kernel
theorem d4_20 : decode prog_26_method_2_code 20 = .ok (.aload_n 0, 1) := by decide +kernel
theorem d4_21 : decode prog_26_method_2_code 21 = .ok (.iload_n 3, 1) := by decide +kernel
theorem d4_22 : decode prog_26_method_2_code 22 = .ok (.putfield 17, 3) := by decide +kernel
theorem d4_25 : decode prog_26_method_2_code 25 = .ok (.aload_n 0, 1) := by decide +kernel
theorem d4_26 : decode prog_26_method_2_code 26 = .ok (.aconst_null, 1) := by decide +kernel
theorem d4_27 : decode prog_26_method_2_code 27 = .ok (.putfield 21, 3) := by decide +kernel
theorem d4_30 : decode prog_26_method_2_code 30 = .ok (.aload_n 0, 1) := by decide +kernel
theorem d4_31 : decode prog_26_method_2_code 31 = .ok (.areturn, 1) := by decide +kernel
def Q_rm4 (Z : State) (a1 : Addr) (q2 : Int64) (p3 : Int32) (u0 : Int64) (s0 : Int32) (h0 : Heap) (n0 : Nat) (v : Option Value) (h : Heap) (L : List Loc) : Prop := v = some (.ref a1) ∧ Fr n0 L ∧ Keep h0 h [a1] ∧ Exa Z h a1 "com/example/strikeshift/strikeshift/decimal/Decimal" ∧ Fld Z h a1 "com/example/strikeshift/strikeshift/decimal/Decimal" "unscaled" "J" (.long q2) ∧ Fld Z h a1 "com/example/strikeshift/strikeshift/decimal/Decimal" "scale" "I" (.int p3) ∧ Fld Z h a1 "com/example/strikeshift/strikeshift/decimal/Decimal" "exact" "Ljava/math/BigDecimal;" .null
set_option maxRecDepth 65536 in
set_option maxHeartbeats 40000000 in
theorem rm4 (l : Launch) (Z : State) (a0 : Array Value) (hw : ∀ d ∈ tables_1, d.before a0 Z = true) (ws : List Jvm.Cond) (a1 : Addr) (q2 : Int64) (p3 : Int32) (u0 : Int64) (s0 : Int32) (h0 : Heap) (n0 : Nat) (Z0 : n0 ≤ h0.size) (E : Exa Z h0 a1 "com/example/strikeshift/strikeshift/decimal/Decimal") (ga : n0 ≤ a1) (F0 : Fld Z h0 a1 "com/example/strikeshift/strikeshift/decimal/Decimal" "unscaled" "J" (.long u0)) (F1 : Fld Z h0 a1 "com/example/strikeshift/strikeshift/decimal/Decimal" "scale" "I" (.int s0)) (F2 : Fld Z h0 a1 "com/example/strikeshift/strikeshift/decimal/Decimal" "exact" "Ljava/math/BigDecimal;" .null) (hq : 0 ≤ q2.toInt) (hp : 0 ≤ p3.toInt) :
    MetFree l (⟨"com/example/strikeshift/strikeshift/decimal/Decimal", "set", "(JI)Lcom/example/strikeshift/strikeshift/decimal/Decimal;"⟩ : MethodName) (head1 (Jvm.Cond.code (⟨"com/example/strikeshift/strikeshift/decimal/Decimal", "set", "(JI)Lcom/example/strikeshift/strikeshift/decimal/Decimal;"⟩ : MethodName) prog_26_method_2_code 4 (some (.object "com/example/strikeshift/strikeshift/decimal/Decimal")) :: ws) ({ frames := 0, cells := 0, slots := 0, locals := 0 } : Room)) (fun a U => a = #[(.ref a1), (.long q2), (.int p3)] ∧ Z.Warmed39 U.vm ∧ U.heap = h0) (fun _ _ _ _ _ => True) (fun _ U o U' => ∃ v L, o = .returned v ∧ Q_rm4 Z a1 q2 p3 u0 s0 h0 n0 v U'.heap L ∧ FrameEnd U o U' L ({ frames := 0, cells := 0, slots := 0, locals := 0 } : Room).cells ({ frames := 0, cells := 0, slots := 0, locals := 0 } : Room).slots) := by
  refine MetFree.of_bodySF (plainFor_of_name pn_com_example_strikeshift_strikeshift_decimal_Decimal) hisR ?_
  intro p e s m args below meth c s₁ Bd hml0 hP hK
  obtain ⟨rfl, hZ, hh⟩ := hP
  have hx := Bd.exec
  have hby := Bd.bytes
  have hml : c.maxLocals = 4 := hml0
  have hown : s.vm.findClass "com/example/strikeshift/strikeshift/decimal/Decimal" = some m.cls := findClass_of_methodNamed Bd.named
  have hnm := (name_of_methodNamed Bd.named Bd.method).1
  have X0 : Stand p l e ({ frames := 0, cells := 0, slots := 0, locals := 0 } : Room) s m #[(.ref a1), (.long q2), (.int p3)] below meth c s₁ [] 0 0 := Stand.of_body Bd
  have e0 : s₁.heap = h0 := by rw [← hh, Bd.state]; rfl
  have N0 := Fr.nil n0
  have pre0 : ∀ t, Steps p.tables e below (s₁.setTop (mkF m 0 #[.val (.ref a1), .val (.long q2), .second, .val (.int p3)] [])) t → Steps p.tables e below (s₁.setTop (entryFrame m #[(.ref a1), (.long q2), (.int p3)] 4)) t := fun t k => castTop (ef_4 m a1 q2 p3) k
  obtain ⟨S0, hS0⟩ : ∃ S, S = s₁.setTop (entryFrame m #[(.ref a1), (.long q2), (.int p3)] 4) := ⟨_, rfl⟩
  rw [← hS0] at pre0 ⊢
  obtain ⟨T1, h1, X1, e1, W1, st1⟩ := putF X0 hx hZ hown (host := "") (Or.inl (hw _ (List.mem_of_getElem? (i := 30) rfl))) Via.refl e0 F0 E (Or.inl (hw _ (List.mem_of_getElem? (i := 31) rfl))) (hw _ (List.mem_of_getElem? (i := 12) rfl)) (ty := .long) (by decide) rfl rfl (g := (mkF m 17 #[.val (.ref a1), .val (.long q2), .second, .val (.int p3)] [(.long q2), (.ref a1)])) rfl rfl (hb hby d4_17)
  have Fw1 := F0.same W1
  have N1 := Fr.snoc X1 N0 ga
  have K2 : Keep h0 h1 [a1] := (Keep.refl h0 [a1]).wr W1 (Or.inl (List.mem_of_getElem? (i := 0) rfl))
  have f_3 := (F1.other W1 (Or.inr (slot_ne (Or.inl (hw _ (List.mem_of_getElem? (i := 33) rfl))) (Or.inl (hw _ (List.mem_of_getElem? (i := 31) rfl))) (by decide) (t := .int) (t' := .long) (by decide) (by decide))))
  have f_4 := (E.wr W1)
  obtain ⟨T5, h5, X5, e5, W5, st5⟩ := putF X1 hx hZ hown (host := "") (Or.inl (hw _ (List.mem_of_getElem? (i := 32) rfl))) Via.refl e1 f_3 f_4 (Or.inl (hw _ (List.mem_of_getElem? (i := 33) rfl))) (hw _ (List.mem_of_getElem? (i := 12) rfl)) (ty := .int) (by decide) rfl rfl (g := (mkF m 22 #[.val (.ref a1), .val (.long q2), .second, .val (.int p3)] [(.int p3), (.ref a1)])) rfl rfl (hb hby d4_22)
  have Fw5 := f_3.same W5
  have N5 := Fr.snoc X5 N1 ga
  have K6 : Keep h0 h5 [a1] := K2.wr W5 (Or.inl (List.mem_of_getElem? (i := 0) rfl))
  have f_7 := ((F2.other W1 (Or.inr (slot_ne (Or.inl (hw _ (List.mem_of_getElem? (i := 35) rfl))) (Or.inl (hw _ (List.mem_of_getElem? (i := 31) rfl))) (by decide) (t := (.object "java/math/BigDecimal")) (t' := .long) (by decide) (by decide)))).other W5 (Or.inr (slot_ne (Or.inl (hw _ (List.mem_of_getElem? (i := 35) rfl))) (Or.inl (hw _ (List.mem_of_getElem? (i := 33) rfl))) (by decide) (t := (.object "java/math/BigDecimal")) (t' := .int) (by decide) (by decide))))
  have f_8 := (f_4.wr W5)
  obtain ⟨T9, h9, X9, e9, W9, st9⟩ := putF X5 hx hZ hown (host := "") (Or.inl (hw _ (List.mem_of_getElem? (i := 34) rfl))) Via.refl e5 f_7 f_8 (Or.inl (hw _ (List.mem_of_getElem? (i := 35) rfl))) (hw _ (List.mem_of_getElem? (i := 12) rfl)) (ty := (.object "java/math/BigDecimal")) (by decide) rfl rfl (g := (mkF m 27 #[.val (.ref a1), .val (.long q2), .second, .val (.int p3)] [.null, (.ref a1)])) rfl rfl (hb hby d4_27)
  have Fw9 := f_7.same W9
  have N9 := Fr.snoc X9 N5 ga
  have K10 : Keep h0 h9 [a1] := K6.wr W9 (Or.inl (List.mem_of_getElem? (i := 0) rfl))
  have f_11 := (f_8.wr W9)
  have f_12 := ((Fw1.other W5 (Or.inr (slot_ne (Or.inl (hw _ (List.mem_of_getElem? (i := 31) rfl))) (Or.inl (hw _ (List.mem_of_getElem? (i := 33) rfl))) (by decide) (t := .long) (t' := .int) (by decide) (by decide)))).other W9 (Or.inr (slot_ne (Or.inl (hw _ (List.mem_of_getElem? (i := 31) rfl))) (Or.inl (hw _ (List.mem_of_getElem? (i := 35) rfl))) (by decide) (t := .long) (t' := (.object "java/math/BigDecimal")) (by decide) (by decide))))
  have f_13 := (Fw5.other W9 (Or.inr (slot_ne (Or.inl (hw _ (List.mem_of_getElem? (i := 33) rfl))) (Or.inl (hw _ (List.mem_of_getElem? (i := 35) rfl))) (by decide) (t := .int) (t' := (.object "java/math/BigDecimal")) (by decide) (by decide))))
  obtain ⟨fs, hr, hrun, hended, hW, hsame⟩ := X9.leave (v := some (.ref a1)) (fun h => by rw [Bd.returns] at h; cases h)
  refine ⟨_, _, pre0 _ ?_, hrun, hended, _, _, rfl, ?_, ⟨_, rfl⟩, hW, hsame.mono (by decide) (by decide)⟩
  · show Steps p.tables e below (s₁.setTop (mkF m 0 #[.val (.ref a1), .val (.long q2), .second, .val (.int p3)] [])) _
    refine XS.lloadN X0.here hx rfl (hb hby d4_0) rfl ?_
    show Steps p.tables e below (s₁.setTop (mkF m 1 #[.val (.ref a1), .val (.long q2), .second, .val (.int p3)] [(.long q2)])) _
    refine XS.iloadN X0.here hx rfl (hb hby d4_1) rfl ?_
    show Steps p.tables e below (s₁.setTop (mkF m 2 #[.val (.ref a1), .val (.long q2), .second, .val (.int p3)] [(.int p3), (.long q2)])) _
    refine XS.i2l X0.here hx rfl (hb hby d4_2) rfl ?_
    show Steps p.tables e below (s₁.setTop (mkF m 3 #[.val (.ref a1), .val (.long q2), .second, .val (.int p3)] [(.long (p3.toInt64)), (.long q2)])) _
    refine XS.lor X0.here hx rfl (hb hby d4_3) rfl ?_
    show Steps p.tables e below (s₁.setTop (mkF m 4 #[.val (.ref a1), .val (.long q2), .second, .val (.int p3)] [(.long (q2 ||| (p3.toInt64)))])) _
    refine XS.lconst X0.here hx rfl (hb hby d4_4) ?_
    show Steps p.tables e below (s₁.setTop (mkF m 5 #[.val (.ref a1), .val (.long q2), .second, .val (.int p3)] [(.long (0 : Int64)), (.long (q2 ||| (p3.toInt64)))])) _
    refine XS.lcmp X0.here hx rfl (hb hby d4_5) rfl ?_
    show Steps p.tables e below (s₁.setTop (mkF m 6 #[.val (.ref a1), .val (.long q2), .second, .val (.int p3)] [(.int (lcmpW (q2 ||| (p3.toInt64)) (0 : Int64)))])) _
    refine XS.ifYes X0.here hx rfl (pc0 := 6) (pc' := 15) rfl (hb hby d4_6) rfl ((if0 _ _).trans (flt (own_or hq hp)).2.1) (by decide) (by decide) ?_
    show Steps p.tables e below (s₁.setTop (mkF m 15 #[.val (.ref a1), .val (.long q2), .second, .val (.int p3)] [])) _
    refine XS.aloadN X0.here hx rfl (hb hby d4_15) rfl rfl ?_
    show Steps p.tables e below (s₁.setTop (mkF m 16 #[.val (.ref a1), .val (.long q2), .second, .val (.int p3)] [(.ref a1)])) _
    refine XS.lloadN X0.here hx rfl (hb hby d4_16) rfl ?_
    show Steps p.tables e below (s₁.setTop (mkF m 17 #[.val (.ref a1), .val (.long q2), .second, .val (.int p3)] [(.long q2), (.ref a1)])) _
    refine st1 _ ?_
    show Steps p.tables e below (T1.setTop (mkF m 20 #[.val (.ref a1), .val (.long q2), .second, .val (.int p3)] [])) _
    refine XS.aloadN X1.here hx rfl (hb hby d4_20) rfl rfl ?_
    show Steps p.tables e below (T1.setTop (mkF m 21 #[.val (.ref a1), .val (.long q2), .second, .val (.int p3)] [(.ref a1)])) _
    refine XS.iloadN X1.here hx rfl (hb hby d4_21) rfl ?_
    show Steps p.tables e below (T1.setTop (mkF m 22 #[.val (.ref a1), .val (.long q2), .second, .val (.int p3)] [(.int p3), (.ref a1)])) _
    refine st5 _ ?_
    show Steps p.tables e below (T5.setTop (mkF m 25 #[.val (.ref a1), .val (.long q2), .second, .val (.int p3)] [])) _
    refine XS.aloadN X5.here hx rfl (hb hby d4_25) rfl rfl ?_
    show Steps p.tables e below (T5.setTop (mkF m 26 #[.val (.ref a1), .val (.long q2), .second, .val (.int p3)] [(.ref a1)])) _
    refine XS.aconstNull X5.here hx rfl (hb hby d4_26) ?_
    show Steps p.tables e below (T5.setTop (mkF m 27 #[.val (.ref a1), .val (.long q2), .second, .val (.int p3)] [.null, (.ref a1)])) _
    refine st9 _ ?_
    show Steps p.tables e below (T9.setTop (mkF m 30 #[.val (.ref a1), .val (.long q2), .second, .val (.int p3)] [])) _
    refine XS.aloadN X9.here hx rfl (hb hby d4_30) rfl rfl ?_
    show Steps p.tables e below (T9.setTop (mkF m 31 #[.val (.ref a1), .val (.long q2), .second, .val (.int p3)] [(.ref a1)])) _
    jvm_step X9.here [X9.here.top, hx, (hb hby d4_31), X9.method', Bd.returns, Value.isRef, FieldType.isReference]
    first | (intro acts; rw [hr _ acts rfl rfl rfl]) | rw [hr _ _ rfl rfl rfl]
    exact Steps.refl _
  · show Q_rm4 Z a1 q2 p3 u0 s0 h0 n0 _ T9.heap _
    rw [e9]
    exact ⟨rfl, N9, K10, f_11, f_12, f_13, Fw9⟩
theorem pn_com_example_strikeshift_strikeshift_adjust_NewTerms : plainName "com/example/strikeshift/strikeshift/adjust/NewTerms" = true := by first | (simp [plainName, overriddenIn]; done) | decide +kernel
theorem ef_5 (m : MethodId) (x0 : Addr) : entryFrame m #[(.ref x0)] 1 = mkF m 0 #[.val (.ref x0)] [] := by first | (simp [entryFrame, mkF, argsToLocals, Value.category]; done) | rfl
theorem d5_0 : decode prog_5_method_7_code 0 = .ok (.aload_n 0, 1) := by decide +kernel
theorem d5_1 : decode prog_5_method_7_code 1 = .ok (.getfield 58, 3) := by decide +kernel
theorem d5_4 : decode prog_5_method_7_code 4 = .ok (.ifCond .eq 10, 3) := by decide +kernel
theorem d5_14 : decode prog_5_method_7_code 14 = .ok (.aconst_null, 1) := by decide +kernel
theorem d5_15 : decode prog_5_method_7_code 15 = .ok (.areturn, 1) := by decide +kernel
def Q_rm5z (Z : State) (a1 : Addr) (h0 : Heap) (n0 : Nat) (v : Option Value) (h : Heap) (L : List Loc) : Prop := v = some .null ∧ Fr n0 L ∧ h = h0
set_option maxRecDepth 65536 in
set_option maxHeartbeats 40000000 in
theorem rm5z (l : Launch) (Z : State) (a0 : Array Value) (hw : ∀ d ∈ tables_1, d.before a0 Z = true) (ws : List Jvm.Cond) (a1 : Addr) (h0 : Heap) (n0 : Nat) (Z0 : n0 ≤ h0.size) (F0 : Fld Z h0 a1 "com/example/strikeshift/strikeshift/adjust/NewTerms" "hasSettlementPrice" "Z" (.int (0 : Int32))) :
    MetFree l (⟨"com/example/strikeshift/strikeshift/adjust/NewTerms", "settlementPrice", "()Lcom/example/strikeshift/strikeshift/decimal/Decimal;"⟩ : MethodName) (head1 (Jvm.Cond.code (⟨"com/example/strikeshift/strikeshift/adjust/NewTerms", "settlementPrice", "()Lcom/example/strikeshift/strikeshift/decimal/Decimal;"⟩ : MethodName) prog_5_method_7_code 1 (some (.object "com/example/strikeshift/strikeshift/decimal/Decimal")) :: ws) ({ frames := 0, cells := 0, slots := 0, locals := 0 } : Room)) (fun a U => a = #[(.ref a1)] ∧ Z.Warmed39 U.vm ∧ U.heap = h0) (fun _ _ _ _ _ => True) (fun _ U o U' => ∃ v L, o = .returned v ∧ Q_rm5z Z a1 h0 n0 v U'.heap L ∧ FrameEnd U o U' L ({ frames := 0, cells := 0, slots := 0, locals := 0 } : Room).cells ({ frames := 0, cells := 0, slots := 0, locals := 0 } : Room).slots) := by
  refine MetFree.of_bodySF (plainFor_of_name pn_com_example_strikeshift_strikeshift_adjust_NewTerms) hisR ?_
  intro p e s m args below meth c s₁ Bd hml0 hP hK
  obtain ⟨rfl, hZ, hh⟩ := hP
  have hx := Bd.exec
  have hby := Bd.bytes
  have hml : c.maxLocals = 1 := hml0
  have hown : s.vm.findClass "com/example/strikeshift/strikeshift/adjust/NewTerms" = some m.cls := findClass_of_methodNamed Bd.named
  have hnm := (name_of_methodNamed Bd.named Bd.method).1
  have X0 : Stand p l e ({ frames := 0, cells := 0, slots := 0, locals := 0 } : Room) s m #[(.ref a1)] below meth c s₁ [] 0 0 := Stand.of_body Bd
  have e0 : s₁.heap = h0 := by rw [← hh, Bd.state]; rfl
  have N0 := Fr.nil n0
  have pre0 : ∀ t, Steps p.tables e below (s₁.setTop (mkF m 0 #[.val (.ref a1)] [])) t → Steps p.tables e below (s₁.setTop (entryFrame m #[(.ref a1)] 1)) t := fun t k => castTop (ef_5 m a1) k
  obtain ⟨S0, hS0⟩ : ∃ S, S = s₁.setTop (entryFrame m #[(.ref a1)] 1) := ⟨_, rfl⟩
  rw [← hS0] at pre0 ⊢
  obtain ⟨T1, X1, e1, st1⟩ := getF X0 hx hZ hown (host := "") (Or.inl (hw _ (List.mem_of_getElem? (i := 50) rfl))) Via.refl e0 F0 (g := (mkF m 1 #[.val (.ref a1)] [(.ref a1)])) rfl rfl (hb hby d5_1)
  obtain ⟨fs, hr, hrun, hended, hW, hsame⟩ := X1.leave (v := some .null) (fun h => by rw [Bd.returns] at h; cases h)
  refine ⟨_, _, pre0 _ ?_, hrun, hended, _, _, rfl, ?_, ⟨_, rfl⟩, hW, hsame.mono (by decide) (by decide)⟩
  · show Steps p.tables e below (s₁.setTop (mkF m 0 #[.val (.ref a1)] [])) _
    refine XS.aloadN X0.here hx rfl (hb hby d5_0) rfl rfl ?_
    show Steps p.tables e below (s₁.setTop (mkF m 1 #[.val (.ref a1)] [(.ref a1)])) _
    refine st1 _ ?_
    show Steps p.tables e below (T1.setTop (mkF m 4 #[.val (.ref a1)] [(.int (0 : Int32))])) _
    refine XS.ifYes X1.here hx rfl (pc0 := 4) (pc' := 14) rfl (hb hby d5_4) rfl ((if0 _ _).trans (teq rfl).1) (by decide) (by decide) ?_
    show Steps p.tables e below (T1.setTop (mkF m 14 #[.val (.ref a1)] [])) _
    refine XS.aconstNull X1.here hx rfl (hb hby d5_14) ?_
    show Steps p.tables e below (T1.setTop (mkF m 15 #[.val (.ref a1)] [.null])) _
    jvm_step X1.here [X1.here.top, hx, (hb hby d5_15), X1.method', Bd.returns, Value.isRef, FieldType.isReference]
    first | (intro acts; rw [hr _ acts rfl rfl rfl]) | rw [hr _ _ rfl rfl rfl]
    exact Steps.refl _
  · show Q_rm5z Z a1 h0 n0 _ T1.heap _
    rw [e1]
    exact ⟨rfl, N0, rfl⟩
theorem d5_7 : decode prog_5_method_7_code 7 = .ok (.aload_n 0, 1) := by decide +kernel
theorem d5_8 : decode prog_5_method_7_code 8 = .ok (.getfield 19, 3) := by decide +kernel
theorem d5_11 : decode prog_5_method_7_code 11 = .ok (.goto 4, 3) := by decide +kernel
def Q_rm5p (Z : State) (a1 : Addr) (k : Int32) (d3 : Addr) (h0 : Heap) (n0 : Nat) (v : Option Value) (h : Heap) (L : List Loc) : Prop := v = some (.ref d3) ∧ Fr n0 L ∧ h = h0
set_option maxRecDepth 65536 in
set_option maxHeartbeats 40000000 in
theorem rm5p (l : Launch) (Z : State) (a0 : Array Value) (hw : ∀ d ∈ tables_1, d.before a0 Z = true) (ws : List Jvm.Cond) (a1 : Addr) (k : Int32) (d3 : Addr) (h0 : Heap) (n0 : Nat) (Z0 : n0 ≤ h0.size) (F0 : Fld Z h0 a1 "com/example/strikeshift/strikeshift/adjust/NewTerms" "hasSettlementPrice" "Z" (.int k)) (F1 : Fld Z h0 a1 "com/example/strikeshift/strikeshift/adjust/NewTerms" "settlementPrice" "Lcom/example/strikeshift/strikeshift/decimal/Decimal;" (.ref d3)) (hk : ¬ (k = (0 : Int32))) :
    MetFree l (⟨"com/example/strikeshift/strikeshift/adjust/NewTerms", "settlementPrice", "()Lcom/example/strikeshift/strikeshift/decimal/Decimal;"⟩ : MethodName) (head1 (Jvm.Cond.code (⟨"com/example/strikeshift/strikeshift/adjust/NewTerms", "settlementPrice", "()Lcom/example/strikeshift/strikeshift/decimal/Decimal;"⟩ : MethodName) prog_5_method_7_code 1 (some (.object "com/example/strikeshift/strikeshift/decimal/Decimal")) :: ws) ({ frames := 0, cells := 0, slots := 0, locals := 0 } : Room)) (fun a U => a = #[(.ref a1)] ∧ Z.Warmed39 U.vm ∧ U.heap = h0) (fun _ _ _ _ _ => True) (fun _ U o U' => ∃ v L, o = .returned v ∧ Q_rm5p Z a1 k d3 h0 n0 v U'.heap L ∧ FrameEnd U o U' L ({ frames := 0, cells := 0, slots := 0, locals := 0 } : Room).cells ({ frames := 0, cells := 0, slots := 0, locals := 0 } : Room).slots) := by
  refine MetFree.of_bodySF (plainFor_of_name pn_com_example_strikeshift_strikeshift_adjust_NewTerms) hisR ?_
  intro p e s m args below meth c s₁ Bd hml0 hP hK
  obtain ⟨rfl, hZ, hh⟩ := hP
  have hx := Bd.exec
  have hby := Bd.bytes
  have hml : c.maxLocals = 1 := hml0
  have hown : s.vm.findClass "com/example/strikeshift/strikeshift/adjust/NewTerms" = some m.cls := findClass_of_methodNamed Bd.named
  have hnm := (name_of_methodNamed Bd.named Bd.method).1
  have X0 : Stand p l e ({ frames := 0, cells := 0, slots := 0, locals := 0 } : Room) s m #[(.ref a1)] below meth c s₁ [] 0 0 := Stand.of_body Bd
  have e0 : s₁.heap = h0 := by rw [← hh, Bd.state]; rfl
  have N0 := Fr.nil n0
  have pre0 : ∀ t, Steps p.tables e below (s₁.setTop (mkF m 0 #[.val (.ref a1)] [])) t → Steps p.tables e below (s₁.setTop (entryFrame m #[(.ref a1)] 1)) t := fun t k => castTop (ef_5 m a1) k
  obtain ⟨S0, hS0⟩ : ∃ S, S = s₁.setTop (entryFrame m #[(.ref a1)] 1) := ⟨_, rfl⟩
  rw [← hS0] at pre0 ⊢
  obtain ⟨T1, X1, e1, st1⟩ := getF X0 hx hZ hown (host := "") (Or.inl (hw _ (List.mem_of_getElem? (i := 50) rfl))) Via.refl e0 F0 (g := (mkF m 1 #[.val (.ref a1)] [(.ref a1)])) rfl rfl (hb hby d5_1)
  obtain ⟨T2, X2, e2, st2⟩ := getF X1 hx hZ hown (host := "") (Or.inl (hw _ (List.mem_of_getElem? (i := 22) rfl))) Via.refl e1 F1 (g := (mkF m 8 #[.val (.ref a1)] [(.ref a1)])) rfl rfl (hb hby d5_8)
  obtain ⟨fs, hr, hrun, hended, hW, hsame⟩ := X2.leave (v := some (.ref d3)) (fun h => by rw [Bd.returns] at h; cases h)
  refine ⟨_, _, pre0 _ ?_, hrun, hended, _, _, rfl, ?_, ⟨_, rfl⟩, hW, hsame.mono (by decide) (by decide)⟩
  · show Steps p.tables e below (s₁.setTop (mkF m 0 #[.val (.ref a1)] [])) _
    refine XS.aloadN X0.here hx rfl (hb hby d5_0) rfl rfl ?_
    show Steps p.tables e below (s₁.setTop (mkF m 1 #[.val (.ref a1)] [(.ref a1)])) _
    refine st1 _ ?_
    show Steps p.tables e below (T1.setTop (mkF m 4 #[.val (.ref a1)] [(.int k)])) _
    refine XS.ifNo X1.here hx rfl (hb hby d5_4) rfl ((if0 _ _).trans (feq hk).1) ?_
    show Steps p.tables e below (T1.setTop (mkF m 7 #[.val (.ref a1)] [])) _
    refine XS.aloadN X1.here hx rfl (hb hby d5_7) rfl rfl ?_
    show Steps p.tables e below (T1.setTop (mkF m 8 #[.val (.ref a1)] [(.ref a1)])) _
    refine st2 _ ?_
    show Steps p.tables e below (T2.setTop (mkF m 11 #[.val (.ref a1)] [(.ref d3)])) _
    refine XS.goto X2.here hx rfl (pc0 := 11) (pc' := 15) rfl (hb hby d5_11) (by decide) (by decide) ?_
    show Steps p.tables e below (T2.setTop (mkF m 15 #[.val (.ref a1)] [(.ref d3)])) _
    jvm_step X2.here [X2.here.top, hx, (hb hby d5_15), X2.method', Bd.returns, Value.isRef, FieldType.isReference]
    first | (intro acts; rw [hr _ acts rfl rfl rfl]) | rw [hr _ _ rfl rfl rfl]
    exact Steps.refl _
  · show Q_rm5p Z a1 k d3 h0 n0 _ T2.heap _
    rw [e2]
    exact ⟨rfl, N0, rfl⟩
theorem ef_6 (m : MethodId) (x0 : Addr) : entryFrame m #[(.ref x0)] 1 = mkF m 0 #[.val (.ref x0)] [] := by first | (simp [entryFrame, mkF, argsToLocals, Value.category]; done) | rfl
theorem d6_0 : decode prog_26_method_5_code 0 = .ok (.aload_n 0, 1) := by decide +kernel
theorem d6_1 : decode prog_26_method_5_code 1 = .ok (.getfield 21, 3) := by decide +kernel
theorem d6_4 : decode prog_26_method_5_code 4 = .ok (.ifnonnull 7, 3) := by decide +kernel
theorem d6_7 : decode prog_26_method_5_code 7 = .ok (.iconst 1, 1) := by decide +kernel
theorem d6_8 : decode prog_26_method_5_code 8 = .ok (.goto 4, 3) := by decide +kernel
theorem d6_12 : decode prog_26_method_5_code 12 = .ok (.ireturn, 1) := by decide +kernel
def Q_rm6 (Z : State) (a1 : Addr) (u0 : Int64) (s0 : Int32) (h0 : Heap) (n0 : Nat) (v : Option Value) (h : Heap) (L : List Loc) : Prop := v = some (.int 1) ∧ Fr n0 L ∧ h = h0
set_option maxRecDepth 65536 in
set_option maxHeartbeats 40000000 in
theorem rm6 (l : Launch) (Z : State) (a0 : Array Value) (hw : ∀ d ∈ tables_1, d.before a0 Z = true) (ws : List Jvm.Cond) (a1 : Addr) (u0 : Int64) (s0 : Int32) (h0 : Heap) (n0 : Nat) (Z0 : n0 ≤ h0.size) (F0 : Fld Z h0 a1 "com/example/strikeshift/strikeshift/decimal/Decimal" "unscaled" "J" (.long u0)) (F1 : Fld Z h0 a1 "com/example/strikeshift/strikeshift/decimal/Decimal" "scale" "I" (.int s0)) (F2 : Fld Z h0 a1 "com/example/strikeshift/strikeshift/decimal/Decimal" "exact" "Ljava/math/BigDecimal;" .null) :
    MetFree l (⟨"com/example/strikeshift/strikeshift/decimal/Decimal", "isLong", "()Z"⟩ : MethodName) (head1 (Jvm.Cond.code (⟨"com/example/strikeshift/strikeshift/decimal/Decimal", "isLong", "()Z"⟩ : MethodName) prog_26_method_5_code 1 (some .boolean) :: ws) ({ frames := 0, cells := 0, slots := 0, locals := 0 } : Room)) (fun a U => a = #[(.ref a1)] ∧ Z.Warmed39 U.vm ∧ U.heap = h0) (fun _ _ _ _ _ => True) (fun _ U o U' => ∃ v L, o = .returned v ∧ Q_rm6 Z a1 u0 s0 h0 n0 v U'.heap L ∧ FrameEnd U o U' L ({ frames := 0, cells := 0, slots := 0, locals := 0 } : Room).cells ({ frames := 0, cells := 0, slots := 0, locals := 0 } : Room).slots) := by
  refine MetFree.of_bodySF (plainFor_of_name pn_com_example_strikeshift_strikeshift_decimal_Decimal) hisR ?_
  intro p e s m args below meth c s₁ Bd hml0 hP hK
  obtain ⟨rfl, hZ, hh⟩ := hP
  have hx := Bd.exec
  have hby := Bd.bytes
  have hml : c.maxLocals = 1 := hml0
  have hown : s.vm.findClass "com/example/strikeshift/strikeshift/decimal/Decimal" = some m.cls := findClass_of_methodNamed Bd.named
  have hnm := (name_of_methodNamed Bd.named Bd.method).1
  have X0 : Stand p l e ({ frames := 0, cells := 0, slots := 0, locals := 0 } : Room) s m #[(.ref a1)] below meth c s₁ [] 0 0 := Stand.of_body Bd
  have e0 : s₁.heap = h0 := by rw [← hh, Bd.state]; rfl
  have N0 := Fr.nil n0
  have pre0 : ∀ t, Steps p.tables e below (s₁.setTop (mkF m 0 #[.val (.ref a1)] [])) t → Steps p.tables e below (s₁.setTop (entryFrame m #[(.ref a1)] 1)) t := fun t k => castTop (ef_6 m a1) k
  obtain ⟨S0, hS0⟩ : ∃ S, S = s₁.setTop (entryFrame m #[(.ref a1)] 1) := ⟨_, rfl⟩
  rw [← hS0] at pre0 ⊢
  obtain ⟨T1, X1, e1, st1⟩ := getF X0 hx hZ hown (host := "") (Or.inl (hw _ (List.mem_of_getElem? (i := 34) rfl))) Via.refl e0 F2 (g := (mkF m 1 #[.val (.ref a1)] [(.ref a1)])) rfl rfl (hb hby d6_1)
  obtain ⟨fs, hr, hrun, hended, hW, hsame⟩ := X1.leave (v := some (.int (1 : Int32))) (fun h => by rw [Bd.returns] at h; cases h)
  refine ⟨_, _, pre0 _ ?_, hrun, hended, _, _, rfl, ?_, ⟨_, rfl⟩, hW, hsame.mono (by decide) (by decide)⟩
  · show Steps p.tables e below (s₁.setTop (mkF m 0 #[.val (.ref a1)] [])) _
    refine XS.aloadN X0.here hx rfl (hb hby d6_0) rfl rfl ?_
    show Steps p.tables e below (s₁.setTop (mkF m 1 #[.val (.ref a1)] [(.ref a1)])) _
    refine st1 _ ?_
    show Steps p.tables e below (T1.setTop (mkF m 4 #[.val (.ref a1)] [.null])) _
    refine XS.ifnonnullNo X1.here hx rfl (hb hby d6_4) rfl ?_
    show Steps p.tables e below (T1.setTop (mkF m 7 #[.val (.ref a1)] [])) _
    refine XS.iconst X1.here hx rfl (hb hby d6_7) ?_
    show Steps p.tables e below (T1.setTop (mkF m 8 #[.val (.ref a1)] [(.int (1 : Int32))])) _
    refine XS.goto X1.here hx rfl (pc0 := 8) (pc' := 12) rfl (hb hby d6_8) (by decide) (by decide) ?_
    show Steps p.tables e below (T1.setTop (mkF m 12 #[.val (.ref a1)] [(.int (1 : Int32))])) _
    exact retN X1 hx (t := .boolean) Bd.returns (by simp) (hb hby d6_12) hr
  · show Q_rm6 Z a1 u0 s0 h0 n0 _ T1.heap _
    rw [e1]
    exact ⟨rfl, N0, rfl⟩
theorem ef_7 (m : MethodId) (x0 : Addr) : entryFrame m #[(.ref x0)] 1 = mkF m 0 #[.val (.ref x0)] [] := by first | (simp [entryFrame, mkF, argsToLocals, Value.category]; done) | rfl
theorem d7_0 : decode prog_26_method_6_code 0 = .ok (.aload_n 0, 1) := by decide +kernel
theorem d7_1 : decode prog_26_method_6_code 1 = .ok (.getfield 21, 3) := by decide +kernel
theorem d7_4 : decode prog_26_method_6_code 4 = .ok (.ifnull 23, 3) := by decide +kernel
theorem d7_27 : decode prog_26_method_6_code 27 = .ok (.aload_n 0, 1) := by decide +kernel
theorem d7_28 : decode prog_26_method_6_code 28 = .ok (.getfield 13, 3) := by decide +kernel
theorem d7_31 : decode prog_26_method_6_code 31 = .ok (.lreturn, 1) := by decide +kernel
def Q_rm7 (Z : State) (a1 : Addr) (u0 : Int64) (s0 : Int32) (h0 : Heap) (n0 : Nat) (v : Option Value) (h : Heap) (L : List Loc) : Prop := v = some (.long u0) ∧ Fr n0 L ∧ h = h0
set_option maxRecDepth 65536 in
set_option maxHeartbeats 40000000 in
theorem rm7 (l : Launch) (Z : State) (a0 : Array Value) (hw : ∀ d ∈ tables_1, d.before a0 Z = true) (ws : List Jvm.Cond) (a1 : Addr) (u0 : Int64) (s0 : Int32) (h0 : Heap) (n0 : Nat) (Z0 : n0 ≤ h0.size) (F0 : Fld Z h0 a1 "com/example/strikeshift/strikeshift/decimal/Decimal" "unscaled" "J" (.long u0)) (F1 : Fld Z h0 a1 "com/example/strikeshift/strikeshift/decimal/Decimal" "scale" "I" (.int s0)) (F2 : Fld Z h0 a1 "com/example/strikeshift/strikeshift/decimal/Decimal" "exact" "Ljava/math/BigDecimal;" .null) :
    MetFree l (⟨"com/example/strikeshift/strikeshift/decimal/Decimal", "unscaled", "()J"⟩ : MethodName) (head1 (Jvm.Cond.code (⟨"com/example/strikeshift/strikeshift/decimal/Decimal", "unscaled", "()J"⟩ : MethodName) prog_26_method_6_code 1 (some .long) :: ws) ({ frames := 0, cells := 0, slots := 0, locals := 0 } : Room)) (fun a U => a = #[(.ref a1)] ∧ Z.Warmed39 U.vm ∧ U.heap = h0) (fun _ _ _ _ _ => True) (fun _ U o U' => ∃ v L, o = .returned v ∧ Q_rm7 Z a1 u0 s0 h0 n0 v U'.heap L ∧ FrameEnd U o U' L ({ frames := 0, cells := 0, slots := 0, locals := 0 } : Room).cells ({ frames := 0, cells := 0, slots := 0, locals := 0 } : Room).slots) := by
  refine MetFree.of_bodySF (plainFor_of_name pn_com_example_strikeshift_strikeshift_decimal_Decimal) hisR ?_
  intro p e s m args below meth c s₁ Bd hml0 hP hK
  obtain ⟨rfl, hZ, hh⟩ := hP
  have hx := Bd.exec
  have hby := Bd.bytes
  have hml : c.maxLocals = 1 := hml0
  have hown : s.vm.findClass "com/example/strikeshift/strikeshift/decimal/Decimal" = some m.cls := findClass_of_methodNamed Bd.named
  have hnm := (name_of_methodNamed Bd.named Bd.method).1
  have X0 : Stand p l e ({ frames := 0, cells := 0, slots := 0, locals := 0 } : Room) s m #[(.ref a1)] below meth c s₁ [] 0 0 := Stand.of_body Bd
  have e0 : s₁.heap = h0 := by rw [← hh, Bd.state]; rfl
  have N0 := Fr.nil n0
  have pre0 : ∀ t, Steps p.tables e below (s₁.setTop (mkF m 0 #[.val (.ref a1)] [])) t → Steps p.tables e below (s₁.setTop (entryFrame m #[(.ref a1)] 1)) t := fun t k => castTop (ef_7 m a1) k
  obtain ⟨S0, hS0⟩ : ∃ S, S = s₁.setTop (entryFrame m #[(.ref a1)] 1) := ⟨_, rfl⟩
  rw [← hS0] at pre0 ⊢
  obtain ⟨T1, X1, e1, st1⟩ := getF X0 hx hZ hown (host := "") (Or.inl (hw _ (List.mem_of_getElem? (i := 34) rfl))) Via.refl e0 F2 (g := (mkF m 1 #[.val (.ref a1)] [(.ref a1)])) rfl rfl (hb hby d7_1)
  obtain ⟨T2, X2, e2, st2⟩ := getF X1 hx hZ hown (host := "") (Or.inl (hw _ (List.mem_of_getElem? (i := 30) rfl))) Via.refl e1 F0 (g := (mkF m 28 #[.val (.ref a1)] [(.ref a1)])) rfl rfl (hb hby d7_28)
  obtain ⟨fs, hr, hrun, hended, hW, hsame⟩ := X2.leave (v := some (.long u0)) (fun h => by rw [Bd.returns] at h; cases h)
  refine ⟨_, _, pre0 _ ?_, hrun, hended, _, _, rfl, ?_, ⟨_, rfl⟩, hW, hsame.mono (by decide) (by decide)⟩
  · show Steps p.tables e below (s₁.setTop (mkF m 0 #[.val (.ref a1)] [])) _
    refine XS.aloadN X0.here hx rfl (hb hby d7_0) rfl rfl ?_
    show Steps p.tables e below (s₁.setTop (mkF m 1 #[.val (.ref a1)] [(.ref a1)])) _
    refine st1 _ ?_
    show Steps p.tables e below (T1.setTop (mkF m 4 #[.val (.ref a1)] [.null])) _
    refine XS.ifnullYes X1.here hx rfl (pc0 := 4) (pc' := 27) rfl (hb hby d7_4) rfl (by decide) (by decide) ?_
    show Steps p.tables e below (T1.setTop (mkF m 27 #[.val (.ref a1)] [])) _
    refine XS.aloadN X1.here hx rfl (hb hby d7_27) rfl rfl ?_
    show Steps p.tables e below (T1.setTop (mkF m 28 #[.val (.ref a1)] [(.ref a1)])) _
    refine st2 _ ?_
    show Steps p.tables e below (T2.setTop (mkF m 31 #[.val (.ref a1)] [(.long u0)])) _
    jvm_step X2.here [X2.here.top, hx, (hb hby d7_31), X2.method', Bd.returns, narrow]
    first | (intro acts; rw [hr _ acts rfl rfl rfl]) | rw [hr _ _ rfl rfl rfl]
    exact Steps.refl _
  · show Q_rm7 Z a1 u0 s0 h0 n0 _ T2.heap _
    rw [e2]
    exact ⟨rfl, N0, rfl⟩
theorem ef_8 (m : MethodId) (x0 : Addr) : entryFrame m #[(.ref x0)] 1 = mkF m 0 #[.val (.ref x0)] [] := by first | (simp [entryFrame, mkF, argsToLocals, Value.category]; done) | rfl
theorem d8_0 : decode prog_26_method_7_code 0 = .ok (.aload_n 0, 1) := by decide +kernel
theorem d8_1 : decode prog_26_method_7_code 1 = .ok (.getfield 21, 3) := by decide +kernel
theorem d8_4 : decode prog_26_method_7_code 4 = .ok (.ifnonnull 10, 3) := by decide +kernel
theorem d8_7 : decode prog_26_method_7_code 7 = .ok (.aload_n 0, 1) := by decide +kernel
theorem d8_8 : decode prog_26_method_7_code 8 = .ok (.getfield 17, 3) := by decide +kernel
theorem d8_11 : decode prog_26_method_7_code 11 = .ok (.goto 10, 3) := by decide +kernel
theorem d8_21 : decode prog_26_method_7_code 21 = .ok (.ireturn, 1) := by decide +kernel
def Q_rm8 (Z : State) (a1 : Addr) (u0 : Int64) (s0 : Int32) (h0 : Heap) (n0 : Nat) (v : Option Value) (h : Heap) (L : List Loc) : Prop := v = some (.int s0) ∧ Fr n0 L ∧ h = h0
set_option maxRecDepth 65536 in
set_option maxHeartbeats 40000000 in
theorem rm8 (l : Launch) (Z : State) (a0 : Array Value) (hw : ∀ d ∈ tables_1, d.before a0 Z = true) (ws : List Jvm.Cond) (a1 : Addr) (u0 : Int64) (s0 : Int32) (h0 : Heap) (n0 : Nat) (Z0 : n0 ≤ h0.size) (F0 : Fld Z h0 a1 "com/example/strikeshift/strikeshift/decimal/Decimal" "unscaled" "J" (.long u0)) (F1 : Fld Z h0 a1 "com/example/strikeshift/strikeshift/decimal/Decimal" "scale" "I" (.int s0)) (F2 : Fld Z h0 a1 "com/example/strikeshift/strikeshift/decimal/Decimal" "exact" "Ljava/math/BigDecimal;" .null) :
    MetFree l (⟨"com/example/strikeshift/strikeshift/decimal/Decimal", "scale", "()I"⟩ : MethodName) (head1 (Jvm.Cond.code (⟨"com/example/strikeshift/strikeshift/decimal/Decimal", "scale", "()I"⟩ : MethodName) prog_26_method_7_code 1 (some .int) :: ws) ({ frames := 0, cells := 0, slots := 0, locals := 0 } : Room)) (fun a U => a = #[(.ref a1)] ∧ Z.Warmed39 U.vm ∧ U.heap = h0) (fun _ _ _ _ _ => True) (fun _ U o U' => ∃ v L, o = .returned v ∧ Q_rm8 Z a1 u0 s0 h0 n0 v U'.heap L ∧ FrameEnd U o U' L ({ frames := 0, cells := 0, slots := 0, locals := 0 } : Room).cells ({ frames := 0, cells := 0, slots := 0, locals := 0 } : Room).slots) := by
  refine MetFree.of_bodySF (plainFor_of_name pn_com_example_strikeshift_strikeshift_decimal_Decimal) hisR ?_
  intro p e s m args below meth c s₁ Bd hml0 hP hK
  obtain ⟨rfl, hZ, hh⟩ := hP
  have hx := Bd.exec
  have hby := Bd.bytes
  have hml : c.maxLocals = 1 := hml0
  have hown : s.vm.findClass "com/example/strikeshift/strikeshift/decimal/Decimal" = some m.cls := findClass_of_methodNamed Bd.named
  have hnm := (name_of_methodNamed Bd.named Bd.method).1
  have X0 : Stand p l e ({ frames := 0, cells := 0, slots := 0, locals := 0 } : Room) s m #[(.ref a1)] below meth c s₁ [] 0 0 := Stand.of_body Bd
  have e0 : s₁.heap = h0 := by rw [← hh, Bd.state]; rfl
  have N0 := Fr.nil n0
  have pre0 : ∀ t, Steps p.tables e below (s₁.setTop (mkF m 0 #[.val (.ref a1)] [])) t → Steps p.tables e below (s₁.setTop (entryFrame m #[(.ref a1)] 1)) t := fun t k => castTop (ef_8 m a1) k
  obtain ⟨S0, hS0⟩ : ∃ S, S = s₁.setTop (entryFrame m #[(.ref a1)] 1) := ⟨_, rfl⟩
  rw [← hS0] at pre0 ⊢
  obtain ⟨T1, X1, e1, st1⟩ := getF X0 hx hZ hown (host := "") (Or.inl (hw _ (List.mem_of_getElem? (i := 34) rfl))) Via.refl e0 F2 (g := (mkF m 1 #[.val (.ref a1)] [(.ref a1)])) rfl rfl (hb hby d8_1)
  obtain ⟨T2, X2, e2, st2⟩ := getF X1 hx hZ hown (host := "") (Or.inl (hw _ (List.mem_of_getElem? (i := 32) rfl))) Via.refl e1 F1 (g := (mkF m 8 #[.val (.ref a1)] [(.ref a1)])) rfl rfl (hb hby d8_8)
  obtain ⟨fs, hr, hrun, hended, hW, hsame⟩ := X2.leave (v := some (.int s0)) (fun h => by rw [Bd.returns] at h; cases h)
  refine ⟨_, _, pre0 _ ?_, hrun, hended, _, _, rfl, ?_, ⟨_, rfl⟩, hW, hsame.mono (by decide) (by decide)⟩
  · show Steps p.tables e below (s₁.setTop (mkF m 0 #[.val (.ref a1)] [])) _
    refine XS.aloadN X0.here hx rfl (hb hby d8_0) rfl rfl ?_
    show Steps p.tables e below (s₁.setTop (mkF m 1 #[.val (.ref a1)] [(.ref a1)])) _
    refine st1 _ ?_
    show Steps p.tables e below (T1.setTop (mkF m 4 #[.val (.ref a1)] [.null])) _
    refine XS.ifnonnullNo X1.here hx rfl (hb hby d8_4) rfl ?_
    show Steps p.tables e below (T1.setTop (mkF m 7 #[.val (.ref a1)] [])) _
    refine XS.aloadN X1.here hx rfl (hb hby d8_7) rfl rfl ?_
    show Steps p.tables e below (T1.setTop (mkF m 8 #[.val (.ref a1)] [(.ref a1)])) _
    refine st2 _ ?_
    show Steps p.tables e below (T2.setTop (mkF m 11 #[.val (.ref a1)] [(.int s0)])) _
    refine XS.goto X2.here hx rfl (pc0 := 11) (pc' := 21) rfl (hb hby d8_11) (by decide) (by decide) ?_
    show Steps p.tables e below (T2.setTop (mkF m 21 #[.val (.ref a1)] [(.int s0)])) _
    exact retI X2 hx Bd.returns (hb hby d8_21) hr
  · show Q_rm8 Z a1 u0 s0 h0 n0 _ T2.heap _
    rw [e2]
    exact ⟨rfl, N0, rfl⟩
theorem ef_9 (m : MethodId) (x0 : Addr) : entryFrame m #[(.ref x0)] 1 = mkF m 0 #[.val (.ref x0)] [] := by first | (simp [entryFrame, mkF, argsToLocals, Value.category]; done) | rfl
theorem d9_0 : decode prog_5_method_3_code 0 = .ok (.aload_n 0, 1) := by decide +kernel
theorem d9_1 : decode prog_5_method_3_code 1 = .ok (.iconst 0, 1) := by decide +kernel
theorem d9_2 : decode prog_5_method_3_code 2 = .ok (.putfield 27, 3) := by decide +kernel
theorem d9_5 : decode prog_5_method_3_code 5 = .ok (.aload_n 0, 1) := by decide +kernel
theorem d9_6 : decode prog_5_method_3_code 6 = .ok (.iconst 0, 1) := by decide +kernel
theorem d9_7 : decode prog_5_method_3_code 7 = .ok (.putfield 39, 3) := by decide +kernel
theorem d9_10 : decode prog_5_method_3_code 10 = .ok (.aload_n 0, 1) := by decide +kernel
theorem d9_11 : decode prog_5_method_3_code 11 = .ok (.iconst 0, 1) := by decide +kernel
theorem d9_12 : decode prog_5_method_3_code 12 = .ok (.putfield 53, 3) := by decide +kernel
theorem d9_15 : decode prog_5_method_3_code 15 = .ok (.aload_n 0, 1) := by decide +kernel
theorem d9_16 : decode prog_5_method_3_code 16 = .ok (.iconst 0, 1) := by decide +kernel
theorem d9_17 : decode prog_5_method_3_code 17 = .ok (.putfield 58, 3) := by decide +kernel
theorem d9_20 : decode prog_5_method_3_code 20 = .ok (.aload_n 0, 1) := by decide +kernel
theorem d9_21 : decode prog_5_method_3_code 21 = .ok (.getstatic 68, 3) := by decide +kernel
theorem d9_24 : decode prog_5_method_3_code 24 = .ok (.putfield 65, 3) := by decide +kernel
theorem d9_27 : decode prog_5_method_3_code 27 = .ok (.return_, 1) := by decide +kernel
def Q_rm9 (Z : State) (a1 : Addr) (wA : Addr) (k0 : Int32) (k1 : Int32) (k2 : Int32) (k3 : Int32) (va : Value) (h0 : Heap) (n0 : Nat) (v : Option Value) (h : Heap) (L : List Loc) : Prop := v = none ∧ Fr n0 L ∧ Keep h0 h [a1] ∧ Exa Z h a1 "com/example/strikeshift/strikeshift/adjust/NewTerms" ∧ Fld Z h a1 "com/example/strikeshift/strikeshift/adjust/NewTerms" "hasSettlementPrice" "Z" (.int (0 : Int32))
set_option maxRecDepth 65536 in
set_option maxHeartbeats 40000000 in
theorem rm9 (l : Launch) (Z : State) (a0 : Array Value) (hw : ∀ d ∈ tables_1, d.before a0 Z = true) (ws : List Jvm.Cond) (a1 : Addr) (wA : Addr) (k0 : Int32) (k1 : Int32) (k2 : Int32) (k3 : Int32) (va : Value) (h0 : Heap) (n0 : Nat) (Z0 : n0 ≤ h0.size) (E : Exa Z h0 a1 "com/example/strikeshift/strikeshift/adjust/NewTerms") (ga : n0 ≤ a1) (SA : Sta Z h0 "com/example/strikeshift/strikeshift/adjust/Action" "UNADJUSTED" "Lcom/example/strikeshift/strikeshift/adjust/Action;" (.ref wA)) (F0 : Fld Z h0 a1 "com/example/strikeshift/strikeshift/adjust/NewTerms" "hasStrike" "Z" (.int k0)) (F1 : Fld Z h0 a1 "com/example/strikeshift/strikeshift/adjust/NewTerms" "hasVersion" "Z" (.int k1)) (F2 : Fld Z h0 a1 "com/example/strikeshift/strikeshift/adjust/NewTerms" "hasContractSize" "Z" (.int k2)) (F3 : Fld Z h0 a1 "com/example/strikeshift/strikeshift/adjust/NewTerms" "hasSettlementPrice" "Z" (.int k3)) (F4 : Fld Z h0 a1 "com/example/strikeshift/strikeshift/adjust/NewTerms" "action" "Lcom/example/strikeshift/strikeshift/adjust/Action;" va) :
    MetFree l (⟨"com/example/strikeshift/strikeshift/adjust/NewTerms", "setUnadjusted", "()V"⟩ : MethodName) (head1 (Jvm.Cond.code (⟨"com/example/strikeshift/strikeshift/adjust/NewTerms", "setUnadjusted", "()V"⟩ : MethodName) prog_5_method_3_code 1 none :: ws) ({ frames := 0, cells := 0, slots := 0, locals := 0 } : Room)) (fun a U => a = #[(.ref a1)] ∧ Z.Warmed39 U.vm ∧ U.heap = h0) (fun _ _ _ _ _ => True) (fun _ U o U' => ∃ v L, o = .returned v ∧ Q_rm9 Z a1 wA k0 k1 k2 k3 va h0 n0 v U'.heap L ∧ FrameEnd U o U' L ({ frames := 0, cells := 0, slots := 0, locals := 0 } : Room).cells ({ frames := 0, cells := 0, slots := 0, locals := 0 } : Room).slots) := by
  refine MetFree.of_bodySF (plainFor_of_name pn_com_example_strikeshift_strikeshift_adjust_NewTerms) hisR ?_
  intro p e s m args below meth c s₁ Bd hml0 hP hK
  obtain ⟨rfl, hZ, hh⟩ := hP
  have hx := Bd.exec
  have hby := Bd.bytes
  have hml : c.maxLocals = 1 := hml0
  have hown : s.vm.findClass "com/example/strikeshift/strikeshift/adjust/NewTerms" = some m.cls := findClass_of_methodNamed Bd.named
  have hnm := (name_of_methodNamed Bd.named Bd.method).1
  have X0 : Stand p l e ({ frames := 0, cells := 0, slots := 0, locals := 0 } : Room) s m #[(.ref a1)] below meth c s₁ [] 0 0 := Stand.of_body Bd
  have e0 : s₁.heap = h0 := by rw [← hh, Bd.state]; rfl
  have N0 := Fr.nil n0
  have pre0 : ∀ t, Steps p.tables e below (s₁.setTop (mkF m 0 #[.val (.ref a1)] [])) t → Steps p.tables e below (s₁.setTop (entryFrame m #[(.ref a1)] 1)) t := fun t k => castTop (ef_9 m a1) k
  obtain ⟨S0, hS0⟩ : ∃ S, S = s₁.setTop (entryFrame m #[(.ref a1)] 1) := ⟨_, rfl⟩
  rw [← hS0] at pre0 ⊢
  obtain ⟨T1, h1, X1, e1, W1, st1⟩ := putFN X0 hx hZ hown (hw _ (List.mem_of_getElem? (i := 71) rfl)) Via.refl e0 F0 E (Or.inl (hw _ (List.mem_of_getElem? (i := 42) rfl))) (hw _ (List.mem_of_getElem? (i := 3) rfl)) (ty := .boolean) (v := (.int (0 : Int32))) (v' := (.int (0 : Int32))) (by decide) rfl rfl (g := (mkF m 2 #[.val (.ref a1)] [(.int (0 : Int32)), (.ref a1)])) rfl rfl (hb hby d9_2)
  have Fw1 := F0.same W1
  have N1 := Fr.snoc X1 N0 ga
  have K2 : Keep h0 h1 [a1] := (Keep.refl h0 [a1]).wr W1 (Or.inl (List.mem_of_getElem? (i := 0) rfl))
  have f_3 := (F1.other W1 (Or.inr (slot_ne (Or.inl (hw _ (List.mem_of_getElem? (i := 73) rfl))) (Or.inl (hw _ (List.mem_of_getElem? (i := 42) rfl))) (by decide) (t := .boolean) (t' := .boolean) (by decide) (by decide))))
  have f_4 := (E.wr W1)
  obtain ⟨T5, h5, X5, e5, W5, st5⟩ := putFN X1 hx hZ hown (hw _ (List.mem_of_getElem? (i := 72) rfl)) Via.refl e1 f_3 f_4 (Or.inl (hw _ (List.mem_of_getElem? (i := 73) rfl))) (hw _ (List.mem_of_getElem? (i := 3) rfl)) (ty := .boolean) (v := (.int (0 : Int32))) (v' := (.int (0 : Int32))) (by decide) rfl rfl (g := (mkF m 7 #[.val (.ref a1)] [(.int (0 : Int32)), (.ref a1)])) rfl rfl (hb hby d9_7)
  have Fw5 := f_3.same W5
  have N5 := Fr.snoc X5 N1 ga
  have K6 : Keep h0 h5 [a1] := K2.wr W5 (Or.inl (List.mem_of_getElem? (i := 0) rfl))
  have f_7 := ((F2.other W1 (Or.inr (slot_ne (Or.inl (hw _ (List.mem_of_getElem? (i := 44) rfl))) (Or.inl (hw _ (List.mem_of_getElem? (i := 42) rfl))) (by decide) (t := .boolean) (t' := .boolean) (by decide) (by decide)))).other W5 (Or.inr (slot_ne (Or.inl (hw _ (List.mem_of_getElem? (i := 44) rfl))) (Or.inl (hw _ (List.mem_of_getElem? (i := 73) rfl))) (by decide) (t := .boolean) (t' := .boolean) (by decide) (by decide))))
  have f_8 := (f_4.wr W5)
  obtain ⟨T9, h9, X9, e9, W9, st9⟩ := putFN X5 hx hZ hown (hw _ (List.mem_of_getElem? (i := 74) rfl)) Via.refl e5 f_7 f_8 (Or.inl (hw _ (List.mem_of_getElem? (i := 44) rfl))) (hw _ (List.mem_of_getElem? (i := 3) rfl)) (ty := .boolean) (v := (.int (0 : Int32))) (v' := (.int (0 : Int32))) (by decide) rfl rfl (g := (mkF m 12 #[.val (.ref a1)] [(.int (0 : Int32)), (.ref a1)])) rfl rfl (hb hby d9_12)
  have Fw9 := f_7.same W9
  have N9 := Fr.snoc X9 N5 ga
  have K10 : Keep h0 h9 [a1] := K6.wr W9 (Or.inl (List.mem_of_getElem? (i := 0) rfl))
  have f_11 := (((F3.other W1 (Or.inr (slot_ne (Or.inl (hw _ (List.mem_of_getElem? (i := 40) rfl))) (Or.inl (hw _ (List.mem_of_getElem? (i := 42) rfl))) (by decide) (t := .boolean) (t' := .boolean) (by decide) (by decide)))).other W5 (Or.inr (slot_ne (Or.inl (hw _ (List.mem_of_getElem? (i := 40) rfl))) (Or.inl (hw _ (List.mem_of_getElem? (i := 73) rfl))) (by decide) (t := .boolean) (t' := .boolean) (by decide) (by decide)))).other W9 (Or.inr (slot_ne (Or.inl (hw _ (List.mem_of_getElem? (i := 40) rfl))) (Or.inl (hw _ (List.mem_of_getElem? (i := 44) rfl))) (by decide) (t := .boolean) (t' := .boolean) (by decide) (by decide))))
  have f_12 := (f_8.wr W9)
  obtain ⟨T13, h13, X13, e13, W13, st13⟩ := putFN X9 hx hZ hown (hw _ (List.mem_of_getElem? (i := 50) rfl)) Via.refl e9 f_11 f_12 (Or.inl (hw _ (List.mem_of_getElem? (i := 40) rfl))) (hw _ (List.mem_of_getElem? (i := 3) rfl)) (ty := .boolean) (v := (.int (0 : Int32))) (v' := (.int (0 : Int32))) (by decide) rfl rfl (g := (mkF m 17 #[.val (.ref a1)] [(.int (0 : Int32)), (.ref a1)])) rfl rfl (hb hby d9_17)
  have Fw13 := f_11.same W13
  have N13 := Fr.snoc X13 N9 ga
  have K14 : Keep h0 h13 [a1] := K10.wr W13 (Or.inl (List.mem_of_getElem? (i := 0) rfl))
  have f_15 := ((((SA.wr W1).wr W5).wr W9).wr W13)
  obtain ⟨T16, X16, e16, st16⟩ := getS2 X13 hx hZ hown (host := "") (Or.inl (hw _ (List.mem_of_getElem? (i := 75) rfl))) Via.refl e13 f_15 (g := (mkF m 21 #[.val (.ref a1)] [(.ref a1)])) rfl (hb hby d9_21)
  have f_17 := ((((F4.other W1 (Or.inr (slot_ne (Or.inl (hw _ (List.mem_of_getElem? (i := 79) rfl))) (Or.inl (hw _ (List.mem_of_getElem? (i := 42) rfl))) (by decide) (t := (.object "com/example/strikeshift/strikeshift/adjust/Action")) (t' := .boolean) (by decide) (by decide)))).other W5 (Or.inr (slot_ne (Or.inl (hw _ (List.mem_of_getElem? (i := 79) rfl))) (Or.inl (hw _ (List.mem_of_getElem? (i := 73) rfl))) (by decide) (t := (.object "com/example/strikeshift/strikeshift/adjust/Action")) (t' := .boolean) (by decide) (by decide)))).other W9 (Or.inr (slot_ne (Or.inl (hw _ (List.mem_of_getElem? (i := 79) rfl))) (Or.inl (hw _ (List.mem_of_getElem? (i := 44) rfl))) (by decide) (t := (.object "com/example/strikeshift/strikeshift/adjust/Action")) (t' := .boolean) (by decide) (by decide)))).other W13 (Or.inr (slot_ne (Or.inl (hw _ (List.mem_of_getElem? (i := 79) rfl))) (Or.inl (hw _ (List.mem_of_getElem? (i := 40) rfl))) (by decide) (t := (.object "com/example/strikeshift/strikeshift/adjust/Action")) (t' := .boolean) (by decide) (by decide))))
  have f_18 := (f_12.wr W13)
  obtain ⟨T19, h19, X19, e19, W19, st19⟩ := putF X16 hx hZ hown (host := "") (Or.inl (hw _ (List.mem_of_getElem? (i := 78) rfl))) Via.refl e16 f_17 f_18 (Or.inl (hw _ (List.mem_of_getElem? (i := 79) rfl))) (hw _ (List.mem_of_getElem? (i := 3) rfl)) (ty := (.object "com/example/strikeshift/strikeshift/adjust/Action")) (by decide) rfl rfl (g := (mkF m 24 #[.val (.ref a1)] [(.ref wA), (.ref a1)])) rfl rfl (hb hby d9_24)
  have Fw19 := f_17.same W19
  have N19 := Fr.snoc X19 N13 ga
  have K20 : Keep h0 h19 [a1] := K14.wr W19 (Or.inl (List.mem_of_getElem? (i := 0) rfl))
  have f_21 := (f_18.wr W19)
  have f_22 := (Fw13.other W19 (Or.inr (slot_ne (Or.inl (hw _ (List.mem_of_getElem? (i := 40) rfl))) (Or.inl (hw _ (List.mem_of_getElem? (i := 79) rfl))) (by decide) (t := .boolean) (t' := (.object "com/example/strikeshift/strikeshift/adjust/Action")) (by decide) (by decide))))
  obtain ⟨fs, hr, hrun, hended, hW, hsame⟩ := X19.leave (v := none) (fun _ => rfl)
  refine ⟨_, _, pre0 _ ?_, hrun, hended, _, _, rfl, ?_, ⟨_, rfl⟩, hW, hsame.mono (by decide) (by decide)⟩
  · show Steps p.tables e below (s₁.setTop (mkF m 0 #[.val (.ref a1)] [])) _
    refine XS.aloadN X0.here hx rfl (hb hby d9_0) rfl rfl ?_
    show Steps p.tables e below (s₁.setTop (mkF m 1 #[.val (.ref a1)] [(.ref a1)])) _
    refine XS.iconst X0.here hx rfl (hb hby d9_1) ?_
    show Steps p.tables e below (s₁.setTop (mkF m 2 #[.val (.ref a1)] [(.int (0 : Int32)), (.ref a1)])) _
    refine st1 _ ?_
    show Steps p.tables e below (T1.setTop (mkF m 5 #[.val (.ref a1)] [])) _
    refine XS.aloadN X1.here hx rfl (hb hby d9_5) rfl rfl ?_
    show Steps p.tables e below (T1.setTop (mkF m 6 #[.val (.ref a1)] [(.ref a1)])) _
    refine XS.iconst X1.here hx rfl (hb hby d9_6) ?_
    show Steps p.tables e below (T1.setTop (mkF m 7 #[.val (.ref a1)] [(.int (0 : Int32)), (.ref a1)])) _
    refine st5 _ ?_
    show Steps p.tables e below (T5.setTop (mkF m 10 #[.val (.ref a1)] [])) _
    refine XS.aloadN X5.here hx rfl (hb hby d9_10) rfl rfl ?_
    show Steps p.tables e below (T5.setTop (mkF m 11 #[.val (.ref a1)] [(.ref a1)])) _
    refine XS.iconst X5.here hx rfl (hb hby d9_11) ?_
    show Steps p.tables e below (T5.setTop (mkF m 12 #[.val (.ref a1)] [(.int (0 : Int32)), (.ref a1)])) _
    refine st9 _ ?_
    show Steps p.tables e below (T9.setTop (mkF m 15 #[.val (.ref a1)] [])) _
    refine XS.aloadN X9.here hx rfl (hb hby d9_15) rfl rfl ?_
    show Steps p.tables e below (T9.setTop (mkF m 16 #[.val (.ref a1)] [(.ref a1)])) _
    refine XS.iconst X9.here hx rfl (hb hby d9_16) ?_
    show Steps p.tables e below (T9.setTop (mkF m 17 #[.val (.ref a1)] [(.int (0 : Int32)), (.ref a1)])) _
    refine st13 _ ?_
    show Steps p.tables e below (T13.setTop (mkF m 20 #[.val (.ref a1)] [])) _
    refine XS.aloadN X13.here hx rfl (hb hby d9_20) rfl rfl ?_
    show Steps p.tables e below (T13.setTop (mkF m 21 #[.val (.ref a1)] [(.ref a1)])) _
    refine st16 _ ?_
    show Steps p.tables e below (T16.setTop (mkF m 24 #[.val (.ref a1)] [(.ref wA), (.ref a1)])) _
    refine st19 _ ?_
    show Steps p.tables e below (T19.setTop (mkF m 27 #[.val (.ref a1)] [])) _
    exact X19.returnOut hx Bd.returns (hb hby d9_27) hr
  · show Q_rm9 Z a1 wA k0 k1 k2 k3 va h0 n0 _ T19.heap _
    rw [e19]
    exact ⟨rfl, N19, K20, f_21, f_22⟩
theorem ef_1 (m : MethodId) (x0 : Addr) : entryFrame m #[(.ref x0)] 1 = mkF m 0 #[.val (.ref x0)] [] := by first | (simp [entryFrame, mkF, argsToLocals, Value.category]; done) | rfl
theorem d1_0 : decode prog_5_method_1_code 0 = .ok (.aload_n 0, 1) := by decide +kernel
theorem d1_1 : decode prog_5_method_1_code 1 = .ok (.invokespecial 1, 3) := by decide +kernel
theorem d1_4 : decode prog_5_method_1_code 4 = .ok (.aload_n 0, 1) := by decide +kernel
theorem d1_5 : decode prog_5_method_1_code 5 = .ok (.new 7, 3) := by decide +kernel
theorem d1_8 : decode prog_5_method_1_code 8 = .ok (.dup, 1) := by decide +kernel
theorem d1_9 : decode prog_5_method_1_code 9 = .ok (.invokespecial 9, 3) := by decide +kernel
theorem pd_0 : parseMethodDescriptor "()V" = some ⟨[], none⟩ := by decide +kernel
theorem d1_12 : decode prog_5_method_1_code 12 = .ok (.putfield 10, 3) := by decide +kernel
theorem d1_15 : decode prog_5_method_1_code 15 = .ok (.aload_n 0, 1) := by decide +kernel
theorem d1_16 : decode prog_5_method_1_code 16 = .ok (.new 7, 3) := by decide +kernel
theorem d1_19 : decode prog_5_method_1_code 19 = .ok (.dup, 1) := by decide +kernel
theorem d1_20 : decode prog_5_method_1_code 20 = .ok (.invokespecial 9, 3) := by decide +kernel
theorem d1_23 : decode prog_5_method_1_code 23 = .ok (.putfield 16, 3) := by decide +kernel
theorem d1_26 : decode prog_5_method_1_code 26 = .ok (.aload_n 0, 1) := by decide +kernel
theorem d1_27 : decode prog_5_method_1_code 27 = .ok (.new 7, 3) := by decide +kernel
theorem d1_30 : decode prog_5_method_1_code 30 = .ok (.dup, 1) := by decide +kernel
theorem d1_31 : decode prog_5_method_1_code 31 = .ok (.invokespecial 9, 3) := by decide +kernel
theorem d1_34 : decode prog_5_method_1_code 34 = .ok (.putfield 19, 3) := by decide +kernel
theorem d1_37 : decode prog_5_method_1_code 37 = .ok (.return_, 1) := by decide +kernel
def Q_rm1 (Z : State) (a1 : Addr) (h0 : Heap) (n0 : Nat) (v : Option Value) (h : Heap) (L : List Loc) : Prop := v = none ∧ Fr n0 L ∧ Keep h0 h [a1] ∧ Exa Z h a1 "com/example/strikeshift/strikeshift/adjust/NewTerms" ∧ Fld Z h a1 "com/example/strikeshift/strikeshift/adjust/NewTerms" "hasSettlementPrice" "Z" (.int (0 : Int32)) ∧ Fld Z h a1 "com/example/strikeshift/strikeshift/adjust/NewTerms" "hasStrike" "Z" (.int (0 : Int32)) ∧ Fld Z h a1 "com/example/strikeshift/strikeshift/adjust/NewTerms" "hasContractSize" "Z" (.int (0 : Int32)) ∧ Fld Z h a1 "com/example/strikeshift/strikeshift/adjust/NewTerms" "hasVersion" "Z" (.int (0 : Int32)) ∧ Fld Z h a1 "com/example/strikeshift/strikeshift/adjust/NewTerms" "action" "Lcom/example/strikeshift/strikeshift/adjust/Action;" .null ∧ ∃ d1 d2 d3 : Addr, h0.size ≤ d1 ∧ h0.size ≤ d2 ∧ h0.size ≤ d3 ∧ d1 ≠ d2 ∧ d1 ≠ d3 ∧ d2 ≠ d3 ∧ (Exa Z h d1 "com/example/strikeshift/strikeshift/decimal/Decimal" ∧ Fld Z h d1 "com/example/strikeshift/strikeshift/decimal/Decimal" "unscaled" "J" (.long (0 : Int64)) ∧ Fld Z h d1 "com/example/strikeshift/strikeshift/decimal/Decimal" "scale" "I" (.int (0 : Int32)) ∧ Fld Z h d1 "com/example/strikeshift/strikeshift/decimal/Decimal" "exact" "Ljava/math/BigDecimal;" .null) ∧ (Exa Z h d2 "com/example/strikeshift/strikeshift/decimal/Decimal" ∧ Fld Z h d2 "com/example/strikeshift/strikeshift/decimal/Decimal" "unscaled" "J" (.long (0 : Int64)) ∧ Fld Z h d2 "com/example/strikeshift/strikeshift/decimal/Decimal" "scale" "I" (.int (0 : Int32)) ∧ Fld Z h d2 "com/example/strikeshift/strikeshift/decimal/Decimal" "exact" "Ljava/math/BigDecimal;" .null) ∧ (Exa Z h d3 "com/example/strikeshift/strikeshift/decimal/Decimal" ∧ Fld Z h d3 "com/example/strikeshift/strikeshift/decimal/Decimal" "unscaled" "J" (.long (0 : Int64)) ∧ Fld Z h d3 "com/example/strikeshift/strikeshift/decimal/Decimal" "scale" "I" (.int (0 : Int32)) ∧ Fld Z h d3 "com/example/strikeshift/strikeshift/decimal/Decimal" "exact" "Ljava/math/BigDecimal;" .null) ∧ Fld Z h a1 "com/example/strikeshift/strikeshift/adjust/NewTerms" "strike" "Lcom/example/strikeshift/strikeshift/decimal/Decimal;" (.ref d1) ∧ Fld Z h a1 "com/example/strikeshift/strikeshift/adjust/NewTerms" "contractSize" "Lcom/example/strikeshift/strikeshift/decimal/Decimal;" (.ref d2) ∧ Fld Z h a1 "com/example/strikeshift/strikeshift/adjust/NewTerms" "settlementPrice" "Lcom/example/strikeshift/strikeshift/decimal/Decimal;" (.ref d3)
set_option maxRecDepth 65536 in
set_option maxHeartbeats 40000000 in
theorem rm1 (l : Launch) (Z : State) (a0 : Array Value) (hw : ∀ d ∈ tables_1, d.before a0 Z = true) (ws : List Jvm.Cond) (a1 : Addr) (h0 : Heap) (n0 : Nat) (Z0 : n0 ≤ h0.size) (E : Exa Z h0 a1 "com/example/strikeshift/strikeshift/adjust/NewTerms") (ga : n0 ≤ a1) (F0 : Fld Z h0 a1 "com/example/strikeshift/strikeshift/adjust/NewTerms" "strike" "Lcom/example/strikeshift/strikeshift/decimal/Decimal;" .null) (F1 : Fld Z h0 a1 "com/example/strikeshift/strikeshift/adjust/NewTerms" "contractSize" "Lcom/example/strikeshift/strikeshift/decimal/Decimal;" .null) (F2 : Fld Z h0 a1 "com/example/strikeshift/strikeshift/adjust/NewTerms" "settlementPrice" "Lcom/example/strikeshift/strikeshift/decimal/Decimal;" .null) (G0 : Fld Z h0 a1 "com/example/strikeshift/strikeshift/adjust/NewTerms" "hasSettlementPrice" "Z" (.int (0 : Int32))) (G1 : Fld Z h0 a1 "com/example/strikeshift/strikeshift/adjust/NewTerms" "hasStrike" "Z" (.int (0 : Int32))) (G2 : Fld Z h0 a1 "com/example/strikeshift/strikeshift/adjust/NewTerms" "hasContractSize" "Z" (.int (0 : Int32))) (G3 : Fld Z h0 a1 "com/example/strikeshift/strikeshift/adjust/NewTerms" "hasVersion" "Z" (.int (0 : Int32))) (G4 : Fld Z h0 a1 "com/example/strikeshift/strikeshift/adjust/NewTerms" "action" "Lcom/example/strikeshift/strikeshift/adjust/Action;" .null) :
    MetFree l (⟨"com/example/strikeshift/strikeshift/adjust/NewTerms", "<init>", "()V"⟩ : MethodName) (head1 (Jvm.Cond.code (⟨"com/example/strikeshift/strikeshift/adjust/NewTerms", "<init>", "()V"⟩ : MethodName) prog_5_method_1_code 1 none :: ws) ({ frames := 2, cells := 3, slots := 9, locals := 28 } : Room)) (fun a U => a = #[(.ref a1)] ∧ Z.Warmed39 U.vm ∧ U.heap = h0) (fun _ _ _ _ _ => True) (fun _ U o U' => ∃ v L, o = .returned v ∧ Q_rm1 Z a1 h0 n0 v U'.heap L ∧ FrameEnd U o U' L ({ frames := 2, cells := 3, slots := 9, locals := 28 } : Room).cells ({ frames := 2, cells := 3, slots := 9, locals := 28 } : Room).slots) := by
  refine MetFree.of_bodySF (plainFor_of_name pn_com_example_strikeshift_strikeshift_adjust_NewTerms) hisR ?_
  intro p e s m args below meth c s₁ Bd hml0 hP hK
  obtain ⟨rfl, hZ, hh⟩ := hP
  have hx := Bd.exec
  have hby := Bd.bytes
  have hml : c.maxLocals = 1 := hml0
  have hown : s.vm.findClass "com/example/strikeshift/strikeshift/adjust/NewTerms" = some m.cls := findClass_of_methodNamed Bd.named
  have hnm := (name_of_methodNamed Bd.named Bd.method).1
  have X0 : Stand p l e ({ frames := 2, cells := 3, slots := 9, locals := 28 } : Room) s m #[(.ref a1)] below meth c s₁ [] 0 0 := Stand.of_body Bd
  have e0 : s₁.heap = h0 := by rw [← hh, Bd.state]; rfl
  have N0 := Fr.nil n0
  have pre0 : ∀ t, Steps p.tables e below (s₁.setTop (mkF m 0 #[.val (.ref a1)] [])) t → Steps p.tables e below (s₁.setTop (entryFrame m #[(.ref a1)] 1)) t := fun t k => castTop (ef_1 m a1) k
  obtain ⟨S0, hS0⟩ : ∃ S, S = s₁.setTop (entryFrame m #[(.ref a1)] 1) := ⟨_, rfl⟩
  rw [← hS0] at pre0 ⊢
  obtain ⟨T1, X1, e1, st1⟩ := initO X0 hx hZ hown (hw _ (List.mem_of_getElem? (i := 8) rfl)) (hw _ (List.mem_of_getElem? (i := 9) rfl)) (hw _ (List.mem_of_getElem? (i := 10) rfl)) e0 (g := (mkF m 1 #[.val (.ref a1)] [(.ref a1)])) rfl (by rw [hml]; rfl) rfl (hb hby d1_1) (by decide) (W := 0) (by show 2 * 0 + _ ≤ _; exact Nat.le_of_eq rfl) (by decide)
  obtain ⟨T2, h2, X2, e2, E2, A2, D2, -, st2⟩ := newO X1 hx hZ hown (hw _ (List.mem_of_getElem? (i := 11) rfl)) (hw _ (List.mem_of_getElem? (i := 12) rfl)) (hw _ (List.mem_of_getElem? (i := 13) rfl)) e1 (g := (mkF m 5 #[.val (.ref a1)] [(.ref a1)])) rfl (hb hby d1_5) (by decide) (by decide)
  obtain ⟨b2, g2⟩ : ∃ z, z = h0.size := ⟨_, rfl⟩
  rw [← g2] at A2 D2 st2
  have gn_b2 : n0 ≤ b2 := Nat.le_trans (Nat.le_trans Z0 (Keep.refl h0 [a1]).1) (Nat.le_of_eq g2.symm)
  have sz_b2 : h0.size ≤ b2 := Nat.le_trans (Keep.refl h0 [a1]).1 (Nat.le_of_eq g2.symm)
  have K3 : Keep h0 h2 [a1] := (Keep.refl h0 [a1]).ext E2
  have lt_b2 : b2 < h2.size := A2.lt
  have F_unscaled_b2 : Fld Z h2 b2 "com/example/strikeshift/strikeshift/decimal/Decimal" "unscaled" "J" (.long (0 : Int64)) := D2 (Or.inl (hw _ (List.mem_of_getElem? (i := 31) rfl))) (ty := .long) (by decide)
  have F_scale_b2 : Fld Z h2 b2 "com/example/strikeshift/strikeshift/decimal/Decimal" "scale" "I" (.int (0 : Int32)) := D2 (Or.inl (hw _ (List.mem_of_getElem? (i := 33) rfl))) (ty := .int) (by decide)
  have F_exact_b2 : Fld Z h2 b2 "com/example/strikeshift/strikeshift/decimal/Decimal" "exact" "Ljava/math/BigDecimal;" .null := D2 (Or.inl (hw _ (List.mem_of_getElem? (i := 35) rfl))) (ty := (.object "java/math/BigDecimal")) (by decide)
  obtain ⟨_, _, ⟨T4, L4, k4, n4⟩, -, X4, ⟨Lc4, hQ4, l4, y4, z4⟩, st4⟩ := X2.specialBack hx (y := (⟨"com/example/strikeshift/strikeshift/decimal/Decimal", "<init>", "()V"⟩ : MethodName)) rfl hown (mvT hZ (hw _ (List.mem_of_getElem? (i := 14) rfl))) (mvT hZ (hw _ (List.mem_of_getElem? (i := 15) rfl))) (mvT hZ (hw _ (List.mem_of_getElem? (i := 16) rfl))) (by decide) (backOf (W := 2) (rm3 l Z a0 hw [] b2 h2 n0 (Nat.le_trans Z0 K3.1)) hZ (hw _ (List.mem_of_getElem? (i := 16) rfl)) (hw _ (List.mem_of_getElem? (i := 13) rfl)) (by decide) (by decide)) (g := (mkF m 9 #[.val (.ref a1)] [(.ref b2), (.ref b2), (.ref a1)])) rfl (by rw [hml]; rfl) (Steps.refl _) (a := b2) (argsL := []) (rest := [(.ref b2), (.ref a1)]) (lenOf pd_0 rfl) rfl (by show 2 * 0 + _ ≤ _; exact Nat.le_of_eq rfl) (hb hby d1_9) (fun _ _ => ⟨rfl, e2, (by decide : 1 + 0 ≤ _), (by decide : 3 + 0 ≤ _)⟩)
  dsimp only [Pt.U, Pt.locs, Pt.cells, Pt.slots] at X4 l4 y4 z4 st4 hQ4
  subst l4 y4 z4
  obtain ⟨rfl, N4q, eq4⟩ := hQ4
  have N4 := Fr.app N0 N4q
  have e4 : T4.heap = h2 := eq4
  have f_5 := (F0.ext E2)
  have f_6 := (E.ext E2)
  obtain ⟨T7, h7, X7, e7, W7, st7⟩ := putF X4 hx hZ hown (host := "") (Or.inl (hw _ (List.mem_of_getElem? (i := 18) rfl))) Via.refl e4 f_5 f_6 (Or.inr ⟨(hw _ (List.mem_of_getElem? (i := 19) rfl)), rfl, hnm⟩) (hw _ (List.mem_of_getElem? (i := 3) rfl)) (ty := (.object "com/example/strikeshift/strikeshift/decimal/Decimal")) (by decide) rfl rfl (g := (mkF m 12 #[.val (.ref a1)] [(.ref b2), (.ref a1)])) rfl rfl (hb hby d1_12)
  have Fw7 := f_5.same W7
  have N7 := Fr.snoc X7 N4 ga
  have K8 : Keep h0 h7 [a1] := K3.wr W7 (Or.inl (List.mem_of_getElem? (i := 0) rfl))
  obtain ⟨T9, h9, X9, e9, E9, A9, D9, -, st9⟩ := newO X7 hx hZ hown (hw _ (List.mem_of_getElem? (i := 11) rfl)) (hw _ (List.mem_of_getElem? (i := 12) rfl)) (hw _ (List.mem_of_getElem? (i := 13) rfl)) e7 (g := (mkF m 16 #[.val (.ref a1)] [(.ref a1)])) rfl (hb hby d1_16) (by decide) (by decide)
  obtain ⟨b9, g9⟩ : ∃ z, z = h7.size := ⟨_, rfl⟩
  rw [← g9] at A9 D9 st9
  have gn_b9 : n0 ≤ b9 := Nat.le_trans (Nat.le_trans Z0 K8.1) (Nat.le_of_eq g9.symm)
  have sz_b9 : h0.size ≤ b9 := Nat.le_trans K8.1 (Nat.le_of_eq g9.symm)
  have K10 : Keep h0 h9 [a1] := K8.ext E9
  have lt_b9 : b9 < h9.size := A9.lt
  have F_unscaled_b9 : Fld Z h9 b9 "com/example/strikeshift/strikeshift/decimal/Decimal" "unscaled" "J" (.long (0 : Int64)) := D9 (Or.inl (hw _ (List.mem_of_getElem? (i := 31) rfl))) (ty := .long) (by decide)
  have F_scale_b9 : Fld Z h9 b9 "com/example/strikeshift/strikeshift/decimal/Decimal" "scale" "I" (.int (0 : Int32)) := D9 (Or.inl (hw _ (List.mem_of_getElem? (i := 33) rfl))) (ty := .int) (by decide)
  have F_exact_b9 : Fld Z h9 b9 "com/example/strikeshift/strikeshift/decimal/Decimal" "exact" "Ljava/math/BigDecimal;" .null := D9 (Or.inl (hw _ (List.mem_of_getElem? (i := 35) rfl))) (ty := (.object "java/math/BigDecimal")) (by decide)
  obtain ⟨_, _, ⟨T11, L11, k11, n11⟩, -, X11, ⟨Lc11, hQ11, l11, y11, z11⟩, st11⟩ := X9.specialBack hx (y := (⟨"com/example/strikeshift/strikeshift/decimal/Decimal", "<init>", "()V"⟩ : MethodName)) rfl hown (mvT hZ (hw _ (List.mem_of_getElem? (i := 14) rfl))) (mvT hZ (hw _ (List.mem_of_getElem? (i := 15) rfl))) (mvT hZ (hw _ (List.mem_of_getElem? (i := 16) rfl))) (by decide) (backOf (W := 2) (rm3 l Z a0 hw [] b9 h9 n0 (Nat.le_trans Z0 K10.1)) hZ (hw _ (List.mem_of_getElem? (i := 16) rfl)) (hw _ (List.mem_of_getElem? (i := 13) rfl)) (by decide) (by decide)) (g := (mkF m 20 #[.val (.ref a1)] [(.ref b9), (.ref b9), (.ref a1)])) rfl (by rw [hml]; rfl) (Steps.refl _) (a := b9) (argsL := []) (rest := [(.ref b9), (.ref a1)]) (lenOf pd_0 rfl) rfl (by show 2 * 0 + _ ≤ _; exact Nat.le_of_eq rfl) (hb hby d1_20) (fun _ _ => ⟨rfl, e9, (by decide : 2 + 0 ≤ _), (by decide : 6 + 0 ≤ _)⟩)
  dsimp only [Pt.U, Pt.locs, Pt.cells, Pt.slots] at X11 l11 y11 z11 st11 hQ11
  subst l11 y11 z11
  obtain ⟨rfl, N11q, eq11⟩ := hQ11
  have N11 := Fr.app N7 N11q
  have e11 : T11.heap = h9 := eq11
  have f_12 := (((F1.ext E2).other W7 (Or.inr (slot_ne (Or.inr (hw _ (List.mem_of_getElem? (i := 21) rfl))) (Or.inr (hw _ (List.mem_of_getElem? (i := 19) rfl))) (by decide) (t := (.object "com/example/strikeshift/strikeshift/decimal/Decimal")) (t' := (.object "com/example/strikeshift/strikeshift/decimal/Decimal")) (by decide) (by decide)))).ext E9)
  have f_13 := ((f_6.wr W7).ext E9)
  obtain ⟨T14, h14, X14, e14, W14, st14⟩ := putF X11 hx hZ hown (host := "") (Or.inl (hw _ (List.mem_of_getElem? (i := 20) rfl))) Via.refl e11 f_12 f_13 (Or.inr ⟨(hw _ (List.mem_of_getElem? (i := 21) rfl)), rfl, hnm⟩) (hw _ (List.mem_of_getElem? (i := 3) rfl)) (ty := (.object "com/example/strikeshift/strikeshift/decimal/Decimal")) (by decide) rfl rfl (g := (mkF m 23 #[.val (.ref a1)] [(.ref b9), (.ref a1)])) rfl rfl (hb hby d1_23)
  have Fw14 := f_12.same W14
  have N14 := Fr.snoc X14 N11 ga
  have K15 : Keep h0 h14 [a1] := K10.wr W14 (Or.inl (List.mem_of_getElem? (i := 0) rfl))
  obtain ⟨T16, h16, X16, e16, E16, A16, D16, -, st16⟩ := newO X14 hx hZ hown (hw _ (List.mem_of_getElem? (i := 11) rfl)) (hw _ (List.mem_of_getElem? (i := 12) rfl)) (hw _ (List.mem_of_getElem? (i := 13) rfl)) e14 (g := (mkF m 27 #[.val (.ref a1)] [(.ref a1)])) rfl (hb hby d1_27) (by decide) (by decide)
  obtain ⟨b16, g16⟩ : ∃ z, z = h14.size := ⟨_, rfl⟩
  rw [← g16] at A16 D16 st16
  have gn_b16 : n0 ≤ b16 := Nat.le_trans (Nat.le_trans Z0 K15.1) (Nat.le_of_eq g16.symm)
  have sz_b16 : h0.size ≤ b16 := Nat.le_trans K15.1 (Nat.le_of_eq g16.symm)
  have K17 : Keep h0 h16 [a1] := K15.ext E16
  have lt_b16 : b16 < h16.size := A16.lt
  have F_unscaled_b16 : Fld Z h16 b16 "com/example/strikeshift/strikeshift/decimal/Decimal" "unscaled" "J" (.long (0 : Int64)) := D16 (Or.inl (hw _ (List.mem_of_getElem? (i := 31) rfl))) (ty := .long) (by decide)
  have F_scale_b16 : Fld Z h16 b16 "com/example/strikeshift/strikeshift/decimal/Decimal" "scale" "I" (.int (0 : Int32)) := D16 (Or.inl (hw _ (List.mem_of_getElem? (i := 33) rfl))) (ty := .int) (by decide)
  have F_exact_b16 : Fld Z h16 b16 "com/example/strikeshift/strikeshift/decimal/Decimal" "exact" "Ljava/math/BigDecimal;" .null := D16 (Or.inl (hw _ (List.mem_of_getElem? (i := 35) rfl))) (ty := (.object "java/math/BigDecimal")) (by decide)
  obtain ⟨_, _, ⟨T18, L18, k18, n18⟩, -, X18, ⟨Lc18, hQ18, l18, y18, z18⟩, st18⟩ := X16.specialBack hx (y := (⟨"com/example/strikeshift/strikeshift/decimal/Decimal", "<init>", "()V"⟩ : MethodName)) rfl hown (mvT hZ (hw _ (List.mem_of_getElem? (i := 14) rfl))) (mvT hZ (hw _ (List.mem_of_getElem? (i := 15) rfl))) (mvT hZ (hw _ (List.mem_of_getElem? (i := 16) rfl))) (by decide) (backOf (W := 2) (rm3 l Z a0 hw [] b16 h16 n0 (Nat.le_trans Z0 K17.1)) hZ (hw _ (List.mem_of_getElem? (i := 16) rfl)) (hw _ (List.mem_of_getElem? (i := 13) rfl)) (by decide) (by decide)) (g := (mkF m 31 #[.val (.ref a1)] [(.ref b16), (.ref b16), (.ref a1)])) rfl (by rw [hml]; rfl) (Steps.refl _) (a := b16) (argsL := []) (rest := [(.ref b16), (.ref a1)]) (lenOf pd_0 rfl) rfl (by show 2 * 0 + _ ≤ _; exact Nat.le_of_eq rfl) (hb hby d1_31) (fun _ _ => ⟨rfl, e16, (by decide : 3 + 0 ≤ _), (by decide : 9 + 0 ≤ _)⟩)
  dsimp only [Pt.U, Pt.locs, Pt.cells, Pt.slots] at X18 l18 y18 z18 st18 hQ18
  subst l18 y18 z18
  obtain ⟨rfl, N18q, eq18⟩ := hQ18
  have N18 := Fr.app N14 N18q
  have e18 : T18.heap = h16 := eq18
  have f_19 := (((((F2.ext E2).other W7 (Or.inr (slot_ne (Or.inr (hw _ (List.mem_of_getElem? (i := 23) rfl))) (Or.inr (hw _ (List.mem_of_getElem? (i := 19) rfl))) (by decide) (t := (.object "com/example/strikeshift/strikeshift/decimal/Decimal")) (t' := (.object "com/example/strikeshift/strikeshift/decimal/Decimal")) (by decide) (by decide)))).ext E9).other W14 (Or.inr (slot_ne (Or.inr (hw _ (List.mem_of_getElem? (i := 23) rfl))) (Or.inr (hw _ (List.mem_of_getElem? (i := 21) rfl))) (by decide) (t := (.object "com/example/strikeshift/strikeshift/decimal/Decimal")) (t' := (.object "com/example/strikeshift/strikeshift/decimal/Decimal")) (by decide) (by decide)))).ext E16)
  have f_20 := ((f_13.wr W14).ext E16)
  obtain ⟨T21, h21, X21, e21, W21, st21⟩ := putF X18 hx hZ hown (host := "") (Or.inl (hw _ (List.mem_of_getElem? (i := 22) rfl))) Via.refl e18 f_19 f_20 (Or.inr ⟨(hw _ (List.mem_of_getElem? (i := 23) rfl)), rfl, hnm⟩) (hw _ (List.mem_of_getElem? (i := 3) rfl)) (ty := (.object "com/example/strikeshift/strikeshift/decimal/Decimal")) (by decide) rfl rfl (g := (mkF m 34 #[.val (.ref a1)] [(.ref b16), (.ref a1)])) rfl rfl (hb hby d1_34)
  have Fw21 := f_19.same W21
  have N21 := Fr.snoc X21 N18 ga
  have K22 : Keep h0 h21 [a1] := K17.wr W21 (Or.inl (List.mem_of_getElem? (i := 0) rfl))
  have f_23 := (f_20.wr W21)
  have f_24 := ((((((G0.ext E2).other W7 (Or.inr (slot_ne (Or.inl (hw _ (List.mem_of_getElem? (i := 40) rfl))) (Or.inr (hw _ (List.mem_of_getElem? (i := 19) rfl))) (by decide) (t := .boolean) (t' := (.object "com/example/strikeshift/strikeshift/decimal/Decimal")) (by decide) (by decide)))).ext E9).other W14 (Or.inr (slot_ne (Or.inl (hw _ (List.mem_of_getElem? (i := 40) rfl))) (Or.inr (hw _ (List.mem_of_getElem? (i := 21) rfl))) (by decide) (t := .boolean) (t' := (.object "com/example/strikeshift/strikeshift/decimal/Decimal")) (by decide) (by decide)))).ext E16).other W21 (Or.inr (slot_ne (Or.inl (hw _ (List.mem_of_getElem? (i := 40) rfl))) (Or.inr (hw _ (List.mem_of_getElem? (i := 23) rfl))) (by decide) (t := .boolean) (t' := (.object "com/example/strikeshift/strikeshift/decimal/Decimal")) (by decide) (by decide))))
  have f_25 := ((((((G1.ext E2).other W7 (Or.inr (slot_ne (Or.inl (hw _ (List.mem_of_getElem? (i := 42) rfl))) (Or.inr (hw _ (List.mem_of_getElem? (i := 19) rfl))) (by decide) (t := .boolean) (t' := (.object "com/example/strikeshift/strikeshift/decimal/Decimal")) (by decide) (by decide)))).ext E9).other W14 (Or.inr (slot_ne (Or.inl (hw _ (List.mem_of_getElem? (i := 42) rfl))) (Or.inr (hw _ (List.mem_of_getElem? (i := 21) rfl))) (by decide) (t := .boolean) (t' := (.object "com/example/strikeshift/strikeshift/decimal/Decimal")) (by decide) (by decide)))).ext E16).other W21 (Or.inr (slot_ne (Or.inl (hw _ (List.mem_of_getElem? (i := 42) rfl))) (Or.inr (hw _ (List.mem_of_getElem? (i := 23) rfl))) (by decide) (t := .boolean) (t' := (.object "com/example/strikeshift/strikeshift/decimal/Decimal")) (by decide) (by decide))))
  have f_26 := ((((((G2.ext E2).other W7 (Or.inr (slot_ne (Or.inl (hw _ (List.mem_of_getElem? (i := 44) rfl))) (Or.inr (hw _ (List.mem_of_getElem? (i := 19) rfl))) (by decide) (t := .boolean) (t' := (.object "com/example/strikeshift/strikeshift/decimal/Decimal")) (by decide) (by decide)))).ext E9).other W14 (Or.inr (slot_ne (Or.inl (hw _ (List.mem_of_getElem? (i := 44) rfl))) (Or.inr (hw _ (List.mem_of_getElem? (i := 21) rfl))) (by decide) (t := .boolean) (t' := (.object "com/example/strikeshift/strikeshift/decimal/Decimal")) (by decide) (by decide)))).ext E16).other W21 (Or.inr (slot_ne (Or.inl (hw _ (List.mem_of_getElem? (i := 44) rfl))) (Or.inr (hw _ (List.mem_of_getElem? (i := 23) rfl))) (by decide) (t := .boolean) (t' := (.object "com/example/strikeshift/strikeshift/decimal/Decimal")) (by decide) (by decide))))
  have f_27 := ((((((G3.ext E2).other W7 (Or.inr (slot_ne (Or.inl (hw _ (List.mem_of_getElem? (i := 73) rfl))) (Or.inr (hw _ (List.mem_of_getElem? (i := 19) rfl))) (by decide) (t := .boolean) (t' := (.object "com/example/strikeshift/strikeshift/decimal/Decimal")) (by decide) (by decide)))).ext E9).other W14 (Or.inr (slot_ne (Or.inl (hw _ (List.mem_of_getElem? (i := 73) rfl))) (Or.inr (hw _ (List.mem_of_getElem? (i := 21) rfl))) (by decide) (t := .boolean) (t' := (.object "com/example/strikeshift/strikeshift/decimal/Decimal")) (by decide) (by decide)))).ext E16).other W21 (Or.inr (slot_ne (Or.inl (hw _ (List.mem_of_getElem? (i := 73) rfl))) (Or.inr (hw _ (List.mem_of_getElem? (i := 23) rfl))) (by decide) (t := .boolean) (t' := (.object "com/example/strikeshift/strikeshift/decimal/Decimal")) (by decide) (by decide))))
  have f_28 := ((((((G4.ext E2).other W7 (Or.inr (slot_ne (Or.inl (hw _ (List.mem_of_getElem? (i := 79) rfl))) (Or.inr (hw _ (List.mem_of_getElem? (i := 19) rfl))) (by decide) (t := (.object "com/example/strikeshift/strikeshift/adjust/Action")) (t' := (.object "com/example/strikeshift/strikeshift/decimal/Decimal")) (by decide) (by decide)))).ext E9).other W14 (Or.inr (slot_ne (Or.inl (hw _ (List.mem_of_getElem? (i := 79) rfl))) (Or.inr (hw _ (List.mem_of_getElem? (i := 21) rfl))) (by decide) (t := (.object "com/example/strikeshift/strikeshift/adjust/Action")) (t' := (.object "com/example/strikeshift/strikeshift/decimal/Decimal")) (by decide) (by decide)))).ext E16).other W21 (Or.inr (slot_ne (Or.inl (hw _ (List.mem_of_getElem? (i := 79) rfl))) (Or.inr (hw _ (List.mem_of_getElem? (i := 23) rfl))) (by decide) (t := (.object "com/example/strikeshift/strikeshift/adjust/Action")) (t' := (.object "com/example/strikeshift/strikeshift/decimal/Decimal")) (by decide) (by decide))))
  have f_29 := (((((A2.wr W7).ext E9).wr W14).ext E16).wr W21)
  have f_30 := (((((F_unscaled_b2.other W7 (Or.inl (Ne.symm (Nat.ne_of_lt (Nat.lt_of_lt_of_le E.lt (Nat.le_of_eq g2.symm)))))).ext E9).other W14 (Or.inl (Ne.symm (Nat.ne_of_lt (Nat.lt_of_lt_of_le E.lt (Nat.le_of_eq g2.symm)))))).ext E16).other W21 (Or.inl (Ne.symm (Nat.ne_of_lt (Nat.lt_of_lt_of_le E.lt (Nat.le_of_eq g2.symm))))))
  have f_31 := (((((F_scale_b2.other W7 (Or.inl (Ne.symm (Nat.ne_of_lt (Nat.lt_of_lt_of_le E.lt (Nat.le_of_eq g2.symm)))))).ext E9).other W14 (Or.inl (Ne.symm (Nat.ne_of_lt (Nat.lt_of_lt_of_le E.lt (Nat.le_of_eq g2.symm)))))).ext E16).other W21 (Or.inl (Ne.symm (Nat.ne_of_lt (Nat.lt_of_lt_of_le E.lt (Nat.le_of_eq g2.symm))))))
  have f_32 := (((((F_exact_b2.other W7 (Or.inl (Ne.symm (Nat.ne_of_lt (Nat.lt_of_lt_of_le E.lt (Nat.le_of_eq g2.symm)))))).ext E9).other W14 (Or.inl (Ne.symm (Nat.ne_of_lt (Nat.lt_of_lt_of_le E.lt (Nat.le_of_eq g2.symm)))))).ext E16).other W21 (Or.inl (Ne.symm (Nat.ne_of_lt (Nat.lt_of_lt_of_le E.lt (Nat.le_of_eq g2.symm))))))
  have f_33 := (((A9.wr W14).ext E16).wr W21)
  have f_34 := (((F_unscaled_b9.other W14 (Or.inl (Ne.symm (Nat.ne_of_lt (Nat.lt_of_lt_of_le (Nat.lt_of_lt_of_le (Nat.lt_of_lt_of_le E.lt E2.1) (Keep.of_wr W7).1) (Nat.le_of_eq g9.symm)))))).ext E16).other W21 (Or.inl (Ne.symm (Nat.ne_of_lt (Nat.lt_of_lt_of_le (Nat.lt_of_lt_of_le (Nat.lt_of_lt_of_le E.lt E2.1) (Keep.of_wr W7).1) (Nat.le_of_eq g9.symm))))))
  have f_35 := (((F_scale_b9.other W14 (Or.inl (Ne.symm (Nat.ne_of_lt (Nat.lt_of_lt_of_le (Nat.lt_of_lt_of_le (Nat.lt_of_lt_of_le E.lt E2.1) (Keep.of_wr W7).1) (Nat.le_of_eq g9.symm)))))).ext E16).other W21 (Or.inl (Ne.symm (Nat.ne_of_lt (Nat.lt_of_lt_of_le (Nat.lt_of_lt_of_le (Nat.lt_of_lt_of_le E.lt E2.1) (Keep.of_wr W7).1) (Nat.le_of_eq g9.symm))))))
  have f_36 := (((F_exact_b9.other W14 (Or.inl (Ne.symm (Nat.ne_of_lt (Nat.lt_of_lt_of_le (Nat.lt_of_lt_of_le (Nat.lt_of_lt_of_le E.lt E2.1) (Keep.of_wr W7).1) (Nat.le_of_eq g9.symm)))))).ext E16).other W21 (Or.inl (Ne.symm (Nat.ne_of_lt (Nat.lt_of_lt_of_le (Nat.lt_of_lt_of_le (Nat.lt_of_lt_of_le E.lt E2.1) (Keep.of_wr W7).1) (Nat.le_of_eq g9.symm))))))
  have f_37 := (A16.wr W21)
  have f_38 := (F_unscaled_b16.other W21 (Or.inl (Ne.symm (Nat.ne_of_lt (Nat.lt_of_lt_of_le (Nat.lt_of_lt_of_le (Nat.lt_of_lt_of_le (Nat.lt_of_lt_of_le (Nat.lt_of_lt_of_le E.lt E2.1) (Keep.of_wr W7).1) E9.1) (Keep.of_wr W14).1) (Nat.le_of_eq g16.symm))))))
  have f_39 := (F_scale_b16.other W21 (Or.inl (Ne.symm (Nat.ne_of_lt (Nat.lt_of_lt_of_le (Nat.lt_of_lt_of_le (Nat.lt_of_lt_of_le (Nat.lt_of_lt_of_le (Nat.lt_of_lt_of_le E.lt E2.1) (Keep.of_wr W7).1) E9.1) (Keep.of_wr W14).1) (Nat.le_of_eq g16.symm))))))
  have f_40 := (F_exact_b16.other W21 (Or.inl (Ne.symm (Nat.ne_of_lt (Nat.lt_of_lt_of_le (Nat.lt_of_lt_of_le (Nat.lt_of_lt_of_le (Nat.lt_of_lt_of_le (Nat.lt_of_lt_of_le E.lt E2.1) (Keep.of_wr W7).1) E9.1) (Keep.of_wr W14).1) (Nat.le_of_eq g16.symm))))))
  have f_41 := ((((Fw7.ext E9).other W14 (Or.inr (slot_ne (Or.inr (hw _ (List.mem_of_getElem? (i := 19) rfl))) (Or.inr (hw _ (List.mem_of_getElem? (i := 21) rfl))) (by decide) (t := (.object "com/example/strikeshift/strikeshift/decimal/Decimal")) (t' := (.object "com/example/strikeshift/strikeshift/decimal/Decimal")) (by decide) (by decide)))).ext E16).other W21 (Or.inr (slot_ne (Or.inr (hw _ (List.mem_of_getElem? (i := 19) rfl))) (Or.inr (hw _ (List.mem_of_getElem? (i := 23) rfl))) (by decide) (t := (.object "com/example/strikeshift/strikeshift/decimal/Decimal")) (t' := (.object "com/example/strikeshift/strikeshift/decimal/Decimal")) (by decide) (by decide))))
  have f_42 := ((Fw14.ext E16).other W21 (Or.inr (slot_ne (Or.inr (hw _ (List.mem_of_getElem? (i := 21) rfl))) (Or.inr (hw _ (List.mem_of_getElem? (i := 23) rfl))) (by decide) (t := (.object "com/example/strikeshift/strikeshift/decimal/Decimal")) (t' := (.object "com/example/strikeshift/strikeshift/decimal/Decimal")) (by decide) (by decide))))
  obtain ⟨fs, hr, hrun, hended, hW, hsame⟩ := X21.leave (v := none) (fun _ => rfl)
  refine ⟨_, _, pre0 _ ?_, hrun, hended, _, _, rfl, ?_, ⟨_, rfl⟩, hW, hsame.mono (by decide) (by decide)⟩
  · show Steps p.tables e below (s₁.setTop (mkF m 0 #[.val (.ref a1)] [])) _
    refine XS.aloadN X0.here hx rfl (hb hby d1_0) rfl rfl ?_
    show Steps p.tables e below (s₁.setTop (mkF m 1 #[.val (.ref a1)] [(.ref a1)])) _
    refine st1 _ ?_
    show Steps p.tables e below (T1.setTop (mkF m 4 #[.val (.ref a1)] [])) _
    refine XS.aloadN X1.here hx rfl (hb hby d1_4) rfl rfl ?_
    show Steps p.tables e below (T1.setTop (mkF m 5 #[.val (.ref a1)] [(.ref a1)])) _
    refine st2 _ ?_
    show Steps p.tables e below (T2.setTop (mkF m 8 #[.val (.ref a1)] [(.ref b2), (.ref a1)])) _
    refine XS.dup X2.here hx rfl (hb hby d1_8) rfl rfl ?_
    show Steps p.tables e below (T2.setTop (mkF m 9 #[.val (.ref a1)] [(.ref b2), (.ref b2), (.ref a1)])) _
    refine st4.trans ?_
    show Steps p.tables e below (T4.setTop (mkF m 12 #[.val (.ref a1)] [(.ref b2), (.ref a1)])) _
    refine st7 _ ?_
    show Steps p.tables e below (T7.setTop (mkF m 15 #[.val (.ref a1)] [])) _
    refine XS.aloadN X7.here hx rfl (hb hby d1_15) rfl rfl ?_
    show Steps p.tables e below (T7.setTop (mkF m 16 #[.val (.ref a1)] [(.ref a1)])) _
    refine st9 _ ?_
    show Steps p.tables e below (T9.setTop (mkF m 19 #[.val (.ref a1)] [(.ref b9), (.ref a1)])) _
    refine XS.dup X9.here hx rfl (hb hby d1_19) rfl rfl ?_
    show Steps p.tables e below (T9.setTop (mkF m 20 #[.val (.ref a1)] [(.ref b9), (.ref b9), (.ref a1)])) _
    refine st11.trans ?_
    show Steps p.tables e below (T11.setTop (mkF m 23 #[.val (.ref a1)] [(.ref b9), (.ref a1)])) _
    refine st14 _ ?_
    show Steps p.tables e below (T14.setTop (mkF m 26 #[.val (.ref a1)] [])) _
    refine XS.aloadN X14.here hx rfl (hb hby d1_26) rfl rfl ?_
    show Steps p.tables e below (T14.setTop (mkF m 27 #[.val (.ref a1)] [(.ref a1)])) _
    refine st16 _ ?_
    show Steps p.tables e below (T16.setTop (mkF m 30 #[.val (.ref a1)] [(.ref b16), (.ref a1)])) _
    refine XS.dup X16.here hx rfl (hb hby d1_30) rfl rfl ?_
    show Steps p.tables e below (T16.setTop (mkF m 31 #[.val (.ref a1)] [(.ref b16), (.ref b16), (.ref a1)])) _
    refine st18.trans ?_
    show Steps p.tables e below (T18.setTop (mkF m 34 #[.val (.ref a1)] [(.ref b16), (.ref a1)])) _
    refine st21 _ ?_
    show Steps p.tables e below (T21.setTop (mkF m 37 #[.val (.ref a1)] [])) _
    exact X21.returnOut hx Bd.returns (hb hby d1_37) hr
  · show Q_rm1 Z a1 h0 n0 _ T21.heap _
    rw [e21]
    exact ⟨rfl, N21, K22, f_23, f_24, f_25, f_26, f_27, f_28, b2, b9, b16, sz_b2, sz_b9, sz_b16, (Nat.ne_of_lt (Nat.lt_of_lt_of_le (Nat.lt_of_lt_of_le lt_b2 (Keep.of_wr W7).1) (Nat.le_of_eq g9.symm))), (Nat.ne_of_lt (Nat.lt_of_lt_of_le (Nat.lt_of_lt_of_le (Nat.lt_of_lt_of_le (Nat.lt_of_lt_of_le lt_b2 (Keep.of_wr W7).1) E9.1) (Keep.of_wr W14).1) (Nat.le_of_eq g16.symm))), (Nat.ne_of_lt (Nat.lt_of_lt_of_le (Nat.lt_of_lt_of_le lt_b9 (Keep.of_wr W14).1) (Nat.le_of_eq g16.symm))), ⟨f_29, f_30, f_31, f_32⟩, ⟨f_33, f_34, f_35, f_36⟩, ⟨f_37, f_38, f_39, f_40⟩, f_41, f_42, Fw21⟩
theorem pn_com_example_strikeshift_strikeshift_adjust_NewTermsSettlementPricePinLaw : plainName "com/example/strikeshift/strikeshift/adjust/NewTermsSettlementPricePinLaw" = true := by first | (simp [plainName, overriddenIn]; done) | decide +kernel
theorem ef_0 (m : MethodId) (x0 : Int64) (x1 : Int32) (x2 : Int32) : entryFrame m #[(.long x0), (.int x1), (.int x2)] maxLocals = mkF m 0 #[.val (.long x0), .second, .val (.int x1), .val (.int x2), .unset, .unset, .unset, .unset, .unset, .unset, .unset, .unset, .unset] [] := by first | (simp [entryFrame, mkF, argsToLocals, Value.category, maxLocals]; done) | rfl
theorem pd_1 : parseMethodDescriptor "(JI)Lcom/example/strikeshift/strikeshift/decimal/Decimal;" = some ⟨[.long, .int], some (.object "com/example/strikeshift/strikeshift/decimal/Decimal")⟩ := by decide +kernel
theorem pd_2 : parseMethodDescriptor "()Lcom/example/strikeshift/strikeshift/decimal/Decimal;" = some ⟨[], some (.object "com/example/strikeshift/strikeshift/decimal/Decimal")⟩ := by decide +kernel
theorem pd_3 : parseMethodDescriptor "()Z" = some ⟨[], some .boolean⟩ := by decide +kernel
theorem pd_4 : parseMethodDescriptor "()J" = some ⟨[], some .long⟩ := by decide +kernel
theorem pd_5 : parseMethodDescriptor "()I" = some ⟨[], some .int⟩ := by decide +kernel
def Q_rm0 (Z : State) (q1 : Int64) (p2 : Int32) (p3 : Int32) (wA : Addr) (h0 : Heap) (n0 : Nat) (v : Option Value) (h : Heap) (L : List Loc) : Prop := v = some (.int 1) ∧ Fr n0 L ∧ True
set_option maxRecDepth 65536 in
set_option maxHeartbeats 40000000 in
theorem rm0 (l : Launch) (Z : State) (a0 : Array Value) (hw : ∀ d ∈ tables_1, d.before a0 Z = true) (ws : List Jvm.Cond) (q1 : Int64) (p2 : Int32) (p3 : Int32) (wA : Addr) (h0 : Heap) (n0 : Nat) (Z0 : n0 ≤ h0.size) (O0 : Old Z n0 h0) (SA : Sta Z Z.heap "com/example/strikeshift/strikeshift/adjust/Action" "UNADJUSTED" "Lcom/example/strikeshift/strikeshift/adjust/Action;" (.ref wA)) :
    MetFree l x (head1 (Jvm.Cond.code x code maxLocals ret :: ws) room_1) (fun a U => a = #[(.long q1), (.int p2), (.int p3)] ∧ Z.Warmed39 U.vm ∧ U.heap = h0) (fun _ _ _ _ _ => True) (fun _ U o U' => ∃ v L, o = .returned v ∧ Q_rm0 Z q1 p2 p3 wA h0 n0 v U'.heap L ∧ FrameEnd U o U' L room_1.cells room_1.slots) := by
  refine MetFree.of_bodySF (plainFor_of_name pn_com_example_strikeshift_strikeshift_adjust_NewTermsSettlementPricePinLaw) hisR ?_
  intro p e s m args below meth c s₁ Bd hml0 hP hK
  obtain ⟨rfl, hZ, hh⟩ := hP
  have hx := Bd.exec
  have hby := Bd.bytes
  have hml : c.maxLocals = 13 := hml0
  have hown : s.vm.findClass "com/example/strikeshift/strikeshift/adjust/NewTermsSettlementPricePinLaw" = some m.cls := findClass_of_methodNamed Bd.named
  have hnm := (name_of_methodNamed Bd.named Bd.method).1
  have X0 : Stand p l e room_1 s m #[(.long q1), (.int p2), (.int p3)] below meth c s₁ [] 0 0 := Stand.of_body Bd
  have e0 : s₁.heap = h0 := by rw [← hh, Bd.state]; rfl
  have N0 := Fr.nil n0
  have pre0 : ∀ t, Steps p.tables e below (s₁.setTop (mkF m 0 #[.val (.long q1), .second, .val (.int p2), .val (.int p3), .unset, .unset, .unset, .unset, .unset, .unset, .unset, .unset, .unset] [])) t → Steps p.tables e below (s₁.setTop (entryFrame m #[(.long q1), (.int p2), (.int p3)] maxLocals)) t := fun t k => castTop (ef_0 m q1 p2 p3) k
  obtain ⟨S0, hS0⟩ : ∃ S, S = s₁.setTop (entryFrame m #[(.long q1), (.int p2), (.int p3)] maxLocals) := ⟨_, rfl⟩
  rw [← hS0] at pre0 ⊢
  have pre1 : ∀ t, Steps p.tables e below (s₁.setTop (mkF m 16 #[.val (.long q1), .second, .val (.int p2), .val (.int p3), .val (.long (q1 &&& (9223372036854775807 : Int64))), .second, .val (.int (p2 &&& (2147483647 : Int32))), .unset, .unset, .unset, .unset, .unset, .unset] [(.int (p3 &&& (1 : Int32)))])) t → Steps p.tables e below S0 t := by
    intro t k
    refine pre0 t ?_
    show Steps p.tables e below (s₁.setTop (mkF m 0 #[.val (.long q1), .second, .val (.int p2), .val (.int p3), .unset, .unset, .unset, .unset, .unset, .unset, .unset, .unset, .unset] [])) _
    refine XS.lloadN X0.here hx rfl (hb hby at_0) rfl ?_
    show Steps p.tables e below (s₁.setTop (mkF m 1 #[.val (.long q1), .second, .val (.int p2), .val (.int p3), .unset, .unset, .unset, .unset, .unset, .unset, .unset, .unset, .unset] [(.long q1)])) _
    refine X0.ldc2Long hx hown (mvT hZ (hw _ (List.mem_of_getElem? (i := 0) rfl))) (g := (mkF m 1 #[.val (.long q1), .second, .val (.int p2), .val (.int p3), .unset, .unset, .unset, .unset, .unset, .unset, .unset, .unset, .unset] [(.long q1)])) rfl (hb hby at_1) _ ?_
    show Steps p.tables e below (s₁.setTop (mkF m 4 #[.val (.long q1), .second, .val (.int p2), .val (.int p3), .unset, .unset, .unset, .unset, .unset, .unset, .unset, .unset, .unset] [(.long (9223372036854775807 : Int64)), (.long q1)])) _
    refine XS.land X0.here hx rfl (hb hby at_4) rfl ?_
    show Steps p.tables e below (s₁.setTop (mkF m 5 #[.val (.long q1), .second, .val (.int p2), .val (.int p3), .unset, .unset, .unset, .unset, .unset, .unset, .unset, .unset, .unset] [(.long (q1 &&& (9223372036854775807 : Int64)))])) _
    refine XS.lstore X0.here hx rfl (hb hby at_5) rfl (l' := #[.val (.long q1), .second, .val (.int p2), .val (.int p3), .val (.long (q1 &&& (9223372036854775807 : Int64))), .second, .unset, .unset, .unset, .unset, .unset, .unset, .unset]) rfl ?_
    show Steps p.tables e below (s₁.setTop (mkF m 7 #[.val (.long q1), .second, .val (.int p2), .val (.int p3), .val (.long (q1 &&& (9223372036854775807 : Int64))), .second, .unset, .unset, .unset, .unset, .unset, .unset, .unset] [])) _
    refine XS.iloadN X0.here hx rfl (hb hby at_7) rfl ?_
    show Steps p.tables e below (s₁.setTop (mkF m 8 #[.val (.long q1), .second, .val (.int p2), .val (.int p3), .val (.long (q1 &&& (9223372036854775807 : Int64))), .second, .unset, .unset, .unset, .unset, .unset, .unset, .unset] [(.int p2)])) _
    refine X0.ldcInt hx hown (mvT hZ (hw _ (List.mem_of_getElem? (i := 1) rfl))) (g := (mkF m 8 #[.val (.long q1), .second, .val (.int p2), .val (.int p3), .val (.long (q1 &&& (9223372036854775807 : Int64))), .second, .unset, .unset, .unset, .unset, .unset, .unset, .unset] [(.int p2)])) rfl (hb hby at_8) _ ?_
    show Steps p.tables e below (s₁.setTop (mkF m 10 #[.val (.long q1), .second, .val (.int p2), .val (.int p3), .val (.long (q1 &&& (9223372036854775807 : Int64))), .second, .unset, .unset, .unset, .unset, .unset, .unset, .unset] [(.int (2147483647 : Int32)), (.int p2)])) _
    refine XS.iand X0.here hx rfl (hb hby at_10) rfl ?_
    show Steps p.tables e below (s₁.setTop (mkF m 11 #[.val (.long q1), .second, .val (.int p2), .val (.int p3), .val (.long (q1 &&& (9223372036854775807 : Int64))), .second, .unset, .unset, .unset, .unset, .unset, .unset, .unset] [(.int (p2 &&& (2147483647 : Int32)))])) _
    refine XS.istore X0.here hx rfl (hb hby at_11) rfl (l' := #[.val (.long q1), .second, .val (.int p2), .val (.int p3), .val (.long (q1 &&& (9223372036854775807 : Int64))), .second, .val (.int (p2 &&& (2147483647 : Int32))), .unset, .unset, .unset, .unset, .unset, .unset]) rfl ?_
    show Steps p.tables e below (s₁.setTop (mkF m 13 #[.val (.long q1), .second, .val (.int p2), .val (.int p3), .val (.long (q1 &&& (9223372036854775807 : Int64))), .second, .val (.int (p2 &&& (2147483647 : Int32))), .unset, .unset, .unset, .unset, .unset, .unset] [])) _
    refine XS.iloadN X0.here hx rfl (hb hby at_13) rfl ?_
    show Steps p.tables e below (s₁.setTop (mkF m 14 #[.val (.long q1), .second, .val (.int p2), .val (.int p3), .val (.long (q1 &&& (9223372036854775807 : Int64))), .second, .val (.int (p2 &&& (2147483647 : Int32))), .unset, .unset, .unset, .unset, .unset, .unset] [(.int p3)])) _
    refine XS.iconst X0.here hx rfl (hb hby at_14) ?_
    show Steps p.tables e below (s₁.setTop (mkF m 15 #[.val (.long q1), .second, .val (.int p2), .val (.int p3), .val (.long (q1 &&& (9223372036854775807 : Int64))), .second, .val (.int (p2 &&& (2147483647 : Int32))), .unset, .unset, .unset, .unset, .unset, .unset] [(.int (1 : Int32)), (.int p3)])) _
    refine XS.iand X0.here hx rfl (hb hby at_15) rfl ?_
    exact k
  obtain ⟨xs, hxs, pre_xs⟩ : ∃ xs : Int32, (((p3 &&& (1 : Int32)) = (0 : Int32) ∧ xs = (0 : Int32)) ∨ (¬ ((p3 &&& (1 : Int32)) = (0 : Int32)) ∧ xs = (1 : Int32))) ∧ ∀ t, Steps p.tables e below (s₁.setTop (mkF m 24 #[.val (.long q1), .second, .val (.int p2), .val (.int p3), .val (.long (q1 &&& (9223372036854775807 : Int64))), .second, .val (.int (p2 &&& (2147483647 : Int32))), .unset, .unset, .unset, .unset, .unset, .unset] [(.int xs)])) t → Steps p.tables e below S0 t := by
    by_cases hc : (p3 &&& (1 : Int32)) = (0 : Int32)
    · refine ⟨(0 : Int32), Or.inl ⟨hc, rfl⟩, fun t k => pre1 t ?_⟩
      show Steps p.tables e below (s₁.setTop (mkF m 16 #[.val (.long q1), .second, .val (.int p2), .val (.int p3), .val (.long (q1 &&& (9223372036854775807 : Int64))), .second, .val (.int (p2 &&& (2147483647 : Int32))), .unset, .unset, .unset, .unset, .unset, .unset] [(.int (p3 &&& (1 : Int32)))])) _
      refine XS.ifYes X0.here hx rfl (pc0 := 16) (pc' := 23) rfl (hb hby at_16) rfl ((if0 _ _).trans (teq hc).1) (by decide) (by decide) ?_
      show Steps p.tables e below (s₁.setTop (mkF m 23 #[.val (.long q1), .second, .val (.int p2), .val (.int p3), .val (.long (q1 &&& (9223372036854775807 : Int64))), .second, .val (.int (p2 &&& (2147483647 : Int32))), .unset, .unset, .unset, .unset, .unset, .unset] [])) _
      refine XS.iconst X0.here hx rfl (hb hby at_23) ?_
      exact k
    · refine ⟨(1 : Int32), Or.inr ⟨hc, rfl⟩, fun t k => pre1 t ?_⟩
      show Steps p.tables e below (s₁.setTop (mkF m 16 #[.val (.long q1), .second, .val (.int p2), .val (.int p3), .val (.long (q1 &&& (9223372036854775807 : Int64))), .second, .val (.int (p2 &&& (2147483647 : Int32))), .unset, .unset, .unset, .unset, .unset, .unset] [(.int (p3 &&& (1 : Int32)))])) _
      refine XS.ifNo X0.here hx rfl (hb hby at_16) rfl ((if0 _ _).trans (feq hc).1) ?_
      show Steps p.tables e below (s₁.setTop (mkF m 19 #[.val (.long q1), .second, .val (.int p2), .val (.int p3), .val (.long (q1 &&& (9223372036854775807 : Int64))), .second, .val (.int (p2 &&& (2147483647 : Int32))), .unset, .unset, .unset, .unset, .unset, .unset] [])) _
      refine XS.iconst X0.here hx rfl (hb hby at_19) ?_
      show Steps p.tables e below (s₁.setTop (mkF m 20 #[.val (.long q1), .second, .val (.int p2), .val (.int p3), .val (.long (q1 &&& (9223372036854775807 : Int64))), .second, .val (.int (p2 &&& (2147483647 : Int32))), .unset, .unset, .unset, .unset, .unset, .unset] [(.int (1 : Int32))])) _
      refine XS.goto X0.here hx rfl (pc0 := 20) (pc' := 24) rfl (hb hby at_20) (by decide) (by decide) ?_
      exact k
  have pre2 : ∀ t, Steps p.tables e below (s₁.setTop (mkF m 29 #[.val (.long q1), .second, .val (.int p2), .val (.int p3), .val (.long (q1 &&& (9223372036854775807 : Int64))), .second, .val (.int (p2 &&& (2147483647 : Int32))), .val (.int xs), .unset, .unset, .unset, .unset, .unset] [(.int (p3 &&& (2 : Int32)))])) t → Steps p.tables e below S0 t := by
    intro t k
    refine pre_xs t ?_
    show Steps p.tables e below (s₁.setTop (mkF m 24 #[.val (.long q1), .second, .val (.int p2), .val (.int p3), .val (.long (q1 &&& (9223372036854775807 : Int64))), .second, .val (.int (p2 &&& (2147483647 : Int32))), .unset, .unset, .unset, .unset, .unset, .unset] [(.int xs)])) _
    refine XS.istore X0.here hx rfl (hb hby at_24) rfl (l' := #[.val (.long q1), .second, .val (.int p2), .val (.int p3), .val (.long (q1 &&& (9223372036854775807 : Int64))), .second, .val (.int (p2 &&& (2147483647 : Int32))), .val (.int xs), .unset, .unset, .unset, .unset, .unset]) rfl ?_
    show Steps p.tables e below (s₁.setTop (mkF m 26 #[.val (.long q1), .second, .val (.int p2), .val (.int p3), .val (.long (q1 &&& (9223372036854775807 : Int64))), .second, .val (.int (p2 &&& (2147483647 : Int32))), .val (.int xs), .unset, .unset, .unset, .unset, .unset] [])) _
    refine XS.iloadN X0.here hx rfl (hb hby at_26) rfl ?_
    show Steps p.tables e below (s₁.setTop (mkF m 27 #[.val (.long q1), .second, .val (.int p2), .val (.int p3), .val (.long (q1 &&& (9223372036854775807 : Int64))), .second, .val (.int (p2 &&& (2147483647 : Int32))), .val (.int xs), .unset, .unset, .unset, .unset, .unset] [(.int p3)])) _
    refine XS.iconst X0.here hx rfl (hb hby at_27) ?_
    show Steps p.tables e below (s₁.setTop (mkF m 28 #[.val (.long q1), .second, .val (.int p2), .val (.int p3), .val (.long (q1 &&& (9223372036854775807 : Int64))), .second, .val (.int (p2 &&& (2147483647 : Int32))), .val (.int xs), .unset, .unset, .unset, .unset, .unset] [(.int (2 : Int32)), (.int p3)])) _
    refine XS.iand X0.here hx rfl (hb hby at_28) rfl ?_
    exact k
  obtain ⟨xu, hxu, pre_xu⟩ : ∃ xu : Int32, (((p3 &&& (2 : Int32)) = (0 : Int32) ∧ xu = (0 : Int32)) ∨ (¬ ((p3 &&& (2 : Int32)) = (0 : Int32)) ∧ xu = (1 : Int32))) ∧ ∀ t, Steps p.tables e below (s₁.setTop (mkF m 37 #[.val (.long q1), .second, .val (.int p2), .val (.int p3), .val (.long (q1 &&& (9223372036854775807 : Int64))), .second, .val (.int (p2 &&& (2147483647 : Int32))), .val (.int xs), .unset, .unset, .unset, .unset, .unset] [(.int xu)])) t → Steps p.tables e below S0 t := by
    by_cases hc : (p3 &&& (2 : Int32)) = (0 : Int32)
    · refine ⟨(0 : Int32), Or.inl ⟨hc, rfl⟩, fun t k => pre2 t ?_⟩
      show Steps p.tables e below (s₁.setTop (mkF m 29 #[.val (.long q1), .second, .val (.int p2), .val (.int p3), .val (.long (q1 &&& (9223372036854775807 : Int64))), .second, .val (.int (p2 &&& (2147483647 : Int32))), .val (.int xs), .unset, .unset, .unset, .unset, .unset] [(.int (p3 &&& (2 : Int32)))])) _
      refine XS.ifYes X0.here hx rfl (pc0 := 29) (pc' := 36) rfl (hb hby at_29) rfl ((if0 _ _).trans (teq hc).1) (by decide) (by decide) ?_
      show Steps p.tables e below (s₁.setTop (mkF m 36 #[.val (.long q1), .second, .val (.int p2), .val (.int p3), .val (.long (q1 &&& (9223372036854775807 : Int64))), .second, .val (.int (p2 &&& (2147483647 : Int32))), .val (.int xs), .unset, .unset, .unset, .unset, .unset] [])) _
      refine XS.iconst X0.here hx rfl (hb hby at_36) ?_
      exact k
    · refine ⟨(1 : Int32), Or.inr ⟨hc, rfl⟩, fun t k => pre2 t ?_⟩
      show Steps p.tables e below (s₁.setTop (mkF m 29 #[.val (.long q1), .second, .val (.int p2), .val (.int p3), .val (.long (q1 &&& (9223372036854775807 : Int64))), .second, .val (.int (p2 &&& (2147483647 : Int32))), .val (.int xs), .unset, .unset, .unset, .unset, .unset] [(.int (p3 &&& (2 : Int32)))])) _
      refine XS.ifNo X0.here hx rfl (hb hby at_29) rfl ((if0 _ _).trans (feq hc).1) ?_
      show Steps p.tables e below (s₁.setTop (mkF m 32 #[.val (.long q1), .second, .val (.int p2), .val (.int p3), .val (.long (q1 &&& (9223372036854775807 : Int64))), .second, .val (.int (p2 &&& (2147483647 : Int32))), .val (.int xs), .unset, .unset, .unset, .unset, .unset] [])) _
      refine XS.iconst X0.here hx rfl (hb hby at_32) ?_
      show Steps p.tables e below (s₁.setTop (mkF m 33 #[.val (.long q1), .second, .val (.int p2), .val (.int p3), .val (.long (q1 &&& (9223372036854775807 : Int64))), .second, .val (.int (p2 &&& (2147483647 : Int32))), .val (.int xs), .unset, .unset, .unset, .unset, .unset] [(.int (1 : Int32))])) _
      refine XS.goto X0.here hx rfl (pc0 := 33) (pc' := 37) rfl (hb hby at_33) (by decide) (by decide) ?_
      exact k
  have pre3 : ∀ t, Steps p.tables e below (s₁.setTop (mkF m 42 #[.val (.long q1), .second, .val (.int p2), .val (.int p3), .val (.long (q1 &&& (9223372036854775807 : Int64))), .second, .val (.int (p2 &&& (2147483647 : Int32))), .val (.int xs), .val (.int xu), .unset, .unset, .unset, .unset] [(.int (p3 &&& (4 : Int32)))])) t → Steps p.tables e below S0 t := by
    intro t k
    refine pre_xu t ?_
    show Steps p.tables e below (s₁.setTop (mkF m 37 #[.val (.long q1), .second, .val (.int p2), .val (.int p3), .val (.long (q1 &&& (9223372036854775807 : Int64))), .second, .val (.int (p2 &&& (2147483647 : Int32))), .val (.int xs), .unset, .unset, .unset, .unset, .unset] [(.int xu)])) _
    refine XS.istore X0.here hx rfl (hb hby at_37) rfl (l' := #[.val (.long q1), .second, .val (.int p2), .val (.int p3), .val (.long (q1 &&& (9223372036854775807 : Int64))), .second, .val (.int (p2 &&& (2147483647 : Int32))), .val (.int xs), .val (.int xu), .unset, .unset, .unset, .unset]) rfl ?_
    show Steps p.tables e below (s₁.setTop (mkF m 39 #[.val (.long q1), .second, .val (.int p2), .val (.int p3), .val (.long (q1 &&& (9223372036854775807 : Int64))), .second, .val (.int (p2 &&& (2147483647 : Int32))), .val (.int xs), .val (.int xu), .unset, .unset, .unset, .unset] [])) _
    refine XS.iloadN X0.here hx rfl (hb hby at_39) rfl ?_
    show Steps p.tables e below (s₁.setTop (mkF m 40 #[.val (.long q1), .second, .val (.int p2), .val (.int p3), .val (.long (q1 &&& (9223372036854775807 : Int64))), .second, .val (.int (p2 &&& (2147483647 : Int32))), .val (.int xs), .val (.int xu), .unset, .unset, .unset, .unset] [(.int p3)])) _
    refine XS.iconst X0.here hx rfl (hb hby at_40) ?_
    show Steps p.tables e below (s₁.setTop (mkF m 41 #[.val (.long q1), .second, .val (.int p2), .val (.int p3), .val (.long (q1 &&& (9223372036854775807 : Int64))), .second, .val (.int (p2 &&& (2147483647 : Int32))), .val (.int xs), .val (.int xu), .unset, .unset, .unset, .unset] [(.int (4 : Int32)), (.int p3)])) _
    refine XS.iand X0.here hx rfl (hb hby at_41) rfl ?_
    exact k
  obtain ⟨xk, hxk, pre_xk⟩ : ∃ xk : Int32, (((p3 &&& (4 : Int32)) = (0 : Int32) ∧ xk = (0 : Int32)) ∨ (¬ ((p3 &&& (4 : Int32)) = (0 : Int32)) ∧ xk = (1 : Int32))) ∧ ∀ t, Steps p.tables e below (s₁.setTop (mkF m 50 #[.val (.long q1), .second, .val (.int p2), .val (.int p3), .val (.long (q1 &&& (9223372036854775807 : Int64))), .second, .val (.int (p2 &&& (2147483647 : Int32))), .val (.int xs), .val (.int xu), .unset, .unset, .unset, .unset] [(.int xk)])) t → Steps p.tables e below S0 t := by
    by_cases hc : (p3 &&& (4 : Int32)) = (0 : Int32)
    · refine ⟨(0 : Int32), Or.inl ⟨hc, rfl⟩, fun t k => pre3 t ?_⟩
      show Steps p.tables e below (s₁.setTop (mkF m 42 #[.val (.long q1), .second, .val (.int p2), .val (.int p3), .val (.long (q1 &&& (9223372036854775807 : Int64))), .second, .val (.int (p2 &&& (2147483647 : Int32))), .val (.int xs), .val (.int xu), .unset, .unset, .unset, .unset] [(.int (p3 &&& (4 : Int32)))])) _
      refine XS.ifYes X0.here hx rfl (pc0 := 42) (pc' := 49) rfl (hb hby at_42) rfl ((if0 _ _).trans (teq hc).1) (by decide) (by decide) ?_
      show Steps p.tables e below (s₁.setTop (mkF m 49 #[.val (.long q1), .second, .val (.int p2), .val (.int p3), .val (.long (q1 &&& (9223372036854775807 : Int64))), .second, .val (.int (p2 &&& (2147483647 : Int32))), .val (.int xs), .val (.int xu), .unset, .unset, .unset, .unset] [])) _
      refine XS.iconst X0.here hx rfl (hb hby at_49) ?_
      exact k
    · refine ⟨(1 : Int32), Or.inr ⟨hc, rfl⟩, fun t k => pre3 t ?_⟩
      show Steps p.tables e below (s₁.setTop (mkF m 42 #[.val (.long q1), .second, .val (.int p2), .val (.int p3), .val (.long (q1 &&& (9223372036854775807 : Int64))), .second, .val (.int (p2 &&& (2147483647 : Int32))), .val (.int xs), .val (.int xu), .unset, .unset, .unset, .unset] [(.int (p3 &&& (4 : Int32)))])) _
      refine XS.ifNo X0.here hx rfl (hb hby at_42) rfl ((if0 _ _).trans (feq hc).1) ?_
      show Steps p.tables e below (s₁.setTop (mkF m 45 #[.val (.long q1), .second, .val (.int p2), .val (.int p3), .val (.long (q1 &&& (9223372036854775807 : Int64))), .second, .val (.int (p2 &&& (2147483647 : Int32))), .val (.int xs), .val (.int xu), .unset, .unset, .unset, .unset] [])) _
      refine XS.iconst X0.here hx rfl (hb hby at_45) ?_
      show Steps p.tables e below (s₁.setTop (mkF m 46 #[.val (.long q1), .second, .val (.int p2), .val (.int p3), .val (.long (q1 &&& (9223372036854775807 : Int64))), .second, .val (.int (p2 &&& (2147483647 : Int32))), .val (.int xs), .val (.int xu), .unset, .unset, .unset, .unset] [(.int (1 : Int32))])) _
      refine XS.goto X0.here hx rfl (pc0 := 46) (pc' := 50) rfl (hb hby at_46) (by decide) (by decide) ?_
      exact k
  have pre4 : ∀ t, Steps p.tables e below (s₁.setTop (mkF m 56 #[.val (.long q1), .second, .val (.int p2), .val (.int p3), .val (.long (q1 &&& (9223372036854775807 : Int64))), .second, .val (.int (p2 &&& (2147483647 : Int32))), .val (.int xs), .val (.int xu), .val (.int xk), .unset, .unset, .unset] [(.int (p3 &&& (8 : Int32)))])) t → Steps p.tables e below S0 t := by
    intro t k
    refine pre_xk t ?_
    show Steps p.tables e below (s₁.setTop (mkF m 50 #[.val (.long q1), .second, .val (.int p2), .val (.int p3), .val (.long (q1 &&& (9223372036854775807 : Int64))), .second, .val (.int (p2 &&& (2147483647 : Int32))), .val (.int xs), .val (.int xu), .unset, .unset, .unset, .unset] [(.int xk)])) _
    refine XS.istore X0.here hx rfl (hb hby at_50) rfl (l' := #[.val (.long q1), .second, .val (.int p2), .val (.int p3), .val (.long (q1 &&& (9223372036854775807 : Int64))), .second, .val (.int (p2 &&& (2147483647 : Int32))), .val (.int xs), .val (.int xu), .val (.int xk), .unset, .unset, .unset]) rfl ?_
    show Steps p.tables e below (s₁.setTop (mkF m 52 #[.val (.long q1), .second, .val (.int p2), .val (.int p3), .val (.long (q1 &&& (9223372036854775807 : Int64))), .second, .val (.int (p2 &&& (2147483647 : Int32))), .val (.int xs), .val (.int xu), .val (.int xk), .unset, .unset, .unset] [])) _
    refine XS.iloadN X0.here hx rfl (hb hby at_52) rfl ?_
    show Steps p.tables e below (s₁.setTop (mkF m 53 #[.val (.long q1), .second, .val (.int p2), .val (.int p3), .val (.long (q1 &&& (9223372036854775807 : Int64))), .second, .val (.int (p2 &&& (2147483647 : Int32))), .val (.int xs), .val (.int xu), .val (.int xk), .unset, .unset, .unset] [(.int p3)])) _
    refine XS.bipush X0.here hx rfl (hb hby at_53) ?_
    show Steps p.tables e below (s₁.setTop (mkF m 55 #[.val (.long q1), .second, .val (.int p2), .val (.int p3), .val (.long (q1 &&& (9223372036854775807 : Int64))), .second, .val (.int (p2 &&& (2147483647 : Int32))), .val (.int xs), .val (.int xu), .val (.int xk), .unset, .unset, .unset] [(.int (8 : Int32)), (.int p3)])) _
    refine XS.iand X0.here hx rfl (hb hby at_55) rfl ?_
    exact k
  obtain ⟨xz, hxz, pre_xz⟩ : ∃ xz : Int32, (((p3 &&& (8 : Int32)) = (0 : Int32) ∧ xz = (0 : Int32)) ∨ (¬ ((p3 &&& (8 : Int32)) = (0 : Int32)) ∧ xz = (1 : Int32))) ∧ ∀ t, Steps p.tables e below (s₁.setTop (mkF m 64 #[.val (.long q1), .second, .val (.int p2), .val (.int p3), .val (.long (q1 &&& (9223372036854775807 : Int64))), .second, .val (.int (p2 &&& (2147483647 : Int32))), .val (.int xs), .val (.int xu), .val (.int xk), .unset, .unset, .unset] [(.int xz)])) t → Steps p.tables e below S0 t := by
    by_cases hc : (p3 &&& (8 : Int32)) = (0 : Int32)
    · refine ⟨(0 : Int32), Or.inl ⟨hc, rfl⟩, fun t k => pre4 t ?_⟩
      show Steps p.tables e below (s₁.setTop (mkF m 56 #[.val (.long q1), .second, .val (.int p2), .val (.int p3), .val (.long (q1 &&& (9223372036854775807 : Int64))), .second, .val (.int (p2 &&& (2147483647 : Int32))), .val (.int xs), .val (.int xu), .val (.int xk), .unset, .unset, .unset] [(.int (p3 &&& (8 : Int32)))])) _
      refine XS.ifYes X0.here hx rfl (pc0 := 56) (pc' := 63) rfl (hb hby at_56) rfl ((if0 _ _).trans (teq hc).1) (by decide) (by decide) ?_
      show Steps p.tables e below (s₁.setTop (mkF m 63 #[.val (.long q1), .second, .val (.int p2), .val (.int p3), .val (.long (q1 &&& (9223372036854775807 : Int64))), .second, .val (.int (p2 &&& (2147483647 : Int32))), .val (.int xs), .val (.int xu), .val (.int xk), .unset, .unset, .unset] [])) _
      refine XS.iconst X0.here hx rfl (hb hby at_63) ?_
      exact k
    · refine ⟨(1 : Int32), Or.inr ⟨hc, rfl⟩, fun t k => pre4 t ?_⟩
      show Steps p.tables e below (s₁.setTop (mkF m 56 #[.val (.long q1), .second, .val (.int p2), .val (.int p3), .val (.long (q1 &&& (9223372036854775807 : Int64))), .second, .val (.int (p2 &&& (2147483647 : Int32))), .val (.int xs), .val (.int xu), .val (.int xk), .unset, .unset, .unset] [(.int (p3 &&& (8 : Int32)))])) _
      refine XS.ifNo X0.here hx rfl (hb hby at_56) rfl ((if0 _ _).trans (feq hc).1) ?_
      show Steps p.tables e below (s₁.setTop (mkF m 59 #[.val (.long q1), .second, .val (.int p2), .val (.int p3), .val (.long (q1 &&& (9223372036854775807 : Int64))), .second, .val (.int (p2 &&& (2147483647 : Int32))), .val (.int xs), .val (.int xu), .val (.int xk), .unset, .unset, .unset] [])) _
      refine XS.iconst X0.here hx rfl (hb hby at_59) ?_
      show Steps p.tables e below (s₁.setTop (mkF m 60 #[.val (.long q1), .second, .val (.int p2), .val (.int p3), .val (.long (q1 &&& (9223372036854775807 : Int64))), .second, .val (.int (p2 &&& (2147483647 : Int32))), .val (.int xs), .val (.int xu), .val (.int xk), .unset, .unset, .unset] [(.int (1 : Int32))])) _
      refine XS.goto X0.here hx rfl (pc0 := 60) (pc' := 64) rfl (hb hby at_60) (by decide) (by decide) ?_
      exact k
  obtain ⟨T5, h5, X5, e5, E5, A5, D5, -, st5⟩ := newO X0 hx hZ hown (hw _ (List.mem_of_getElem? (i := 2) rfl)) (hw _ (List.mem_of_getElem? (i := 3) rfl)) (hw _ (List.mem_of_getElem? (i := 4) rfl)) e0 (g := (mkF m 66 #[.val (.long q1), .second, .val (.int p2), .val (.int p3), .val (.long (q1 &&& (9223372036854775807 : Int64))), .second, .val (.int (p2 &&& (2147483647 : Int32))), .val (.int xs), .val (.int xu), .val (.int xk), .val (.int xz), .unset, .unset] [])) rfl (hb hby at_66) (by decide) (by decide)
  obtain ⟨b5, g5⟩ : ∃ z, z = h0.size := ⟨_, rfl⟩
  rw [← g5] at A5 D5 st5
  have gn_b5 : n0 ≤ b5 := Nat.le_trans (Nat.le_trans Z0 (Keep.refl h0 []).1) (Nat.le_of_eq g5.symm)
  have sz_b5 : h0.size ≤ b5 := Nat.le_trans (Keep.refl h0 []).1 (Nat.le_of_eq g5.symm)
  have K6 : Keep h0 h5 [] := (Keep.refl h0 []).ext E5
  have lt_b5 : b5 < h5.size := A5.lt
  have F_strike_b5 : Fld Z h5 b5 "com/example/strikeshift/strikeshift/adjust/NewTerms" "strike" "Lcom/example/strikeshift/strikeshift/decimal/Decimal;" .null := D5 (Or.inr (hw _ (List.mem_of_getElem? (i := 19) rfl))) (ty := (.object "com/example/strikeshift/strikeshift/decimal/Decimal")) (by decide)
  have F_contractSize_b5 : Fld Z h5 b5 "com/example/strikeshift/strikeshift/adjust/NewTerms" "contractSize" "Lcom/example/strikeshift/strikeshift/decimal/Decimal;" .null := D5 (Or.inr (hw _ (List.mem_of_getElem? (i := 21) rfl))) (ty := (.object "com/example/strikeshift/strikeshift/decimal/Decimal")) (by decide)
  have F_settlementPrice_b5 : Fld Z h5 b5 "com/example/strikeshift/strikeshift/adjust/NewTerms" "settlementPrice" "Lcom/example/strikeshift/strikeshift/decimal/Decimal;" .null := D5 (Or.inr (hw _ (List.mem_of_getElem? (i := 23) rfl))) (ty := (.object "com/example/strikeshift/strikeshift/decimal/Decimal")) (by decide)
  have F_hasSettlementPrice_b5 : Fld Z h5 b5 "com/example/strikeshift/strikeshift/adjust/NewTerms" "hasSettlementPrice" "Z" (.int (0 : Int32)) := D5 (Or.inl (hw _ (List.mem_of_getElem? (i := 40) rfl))) (ty := .boolean) (by decide)
  have F_hasStrike_b5 : Fld Z h5 b5 "com/example/strikeshift/strikeshift/adjust/NewTerms" "hasStrike" "Z" (.int (0 : Int32)) := D5 (Or.inl (hw _ (List.mem_of_getElem? (i := 42) rfl))) (ty := .boolean) (by decide)
  have F_hasContractSize_b5 : Fld Z h5 b5 "com/example/strikeshift/strikeshift/adjust/NewTerms" "hasContractSize" "Z" (.int (0 : Int32)) := D5 (Or.inl (hw _ (List.mem_of_getElem? (i := 44) rfl))) (ty := .boolean) (by decide)
  have F_hasVersion_b5 : Fld Z h5 b5 "com/example/strikeshift/strikeshift/adjust/NewTerms" "hasVersion" "Z" (.int (0 : Int32)) := D5 (Or.inl (hw _ (List.mem_of_getElem? (i := 73) rfl))) (ty := .boolean) (by decide)
  have F_action_b5 : Fld Z h5 b5 "com/example/strikeshift/strikeshift/adjust/NewTerms" "action" "Lcom/example/strikeshift/strikeshift/adjust/Action;" .null := D5 (Or.inl (hw _ (List.mem_of_getElem? (i := 79) rfl))) (ty := (.object "com/example/strikeshift/strikeshift/adjust/Action")) (by decide)
  have hxs : xs = (0 : Int32) ∨ xs = (1 : Int32) := hxs.elim (fun r => Or.inl r.2) (fun r => Or.inr r.2)
  have hxu : xu = (0 : Int32) ∨ xu = (1 : Int32) := hxu.elim (fun r => Or.inl r.2) (fun r => Or.inr r.2)
  have hxk : xk = (0 : Int32) ∨ xk = (1 : Int32) := hxk.elim (fun r => Or.inl r.2) (fun r => Or.inr r.2)
  have hxz : xz = (0 : Int32) ∨ xz = (1 : Int32) := hxz.elim (fun r => Or.inl r.2) (fun r => Or.inr r.2)
  obtain ⟨_, _, ⟨T7, L7, k7, n7⟩, -, X7, ⟨Lc7, hQ7, l7, y7, z7⟩, st7⟩ := X5.specialBack hx (y := (⟨"com/example/strikeshift/strikeshift/adjust/NewTerms", "<init>", "()V"⟩ : MethodName)) rfl hown (mvT hZ (hw _ (List.mem_of_getElem? (i := 5) rfl))) (mvT hZ (hw _ (List.mem_of_getElem? (i := 6) rfl))) (mvT hZ (hw _ (List.mem_of_getElem? (i := 7) rfl))) (by decide) (backOf (W := 1) (rm1 l Z a0 hw [] b5 h5 n0 (Nat.le_trans Z0 K6.1) A5 gn_b5 F_strike_b5 F_contractSize_b5 F_settlementPrice_b5 F_hasSettlementPrice_b5 F_hasStrike_b5 F_hasContractSize_b5 F_hasVersion_b5 F_action_b5) hZ (hw _ (List.mem_of_getElem? (i := 7) rfl)) (hw _ (List.mem_of_getElem? (i := 4) rfl)) (by decide) (by decide)) (g := (mkF m 70 #[.val (.long q1), .second, .val (.int p2), .val (.int p3), .val (.long (q1 &&& (9223372036854775807 : Int64))), .second, .val (.int (p2 &&& (2147483647 : Int32))), .val (.int xs), .val (.int xu), .val (.int xk), .val (.int xz), .unset, .unset] [(.ref b5), (.ref b5)])) rfl (by rw [hml]; rfl) (Steps.refl _) (a := b5) (argsL := []) (rest := [(.ref b5)]) (lenOf pd_0 rfl) rfl (by show 2 * 0 + _ ≤ _; exact Nat.le_of_eq rfl) (hb hby at_70) (fun _ _ => ⟨rfl, e5, (by decide : 1 + 3 ≤ _), (by decide : 9 + 9 ≤ _)⟩)
  dsimp only [Pt.U, Pt.locs, Pt.cells, Pt.slots] at X7 l7 y7 z7 st7 hQ7
  subst l7 y7 z7
  obtain ⟨rfl, N7q, K7, Eq7, Z0q7, Z1q7, Z2q7, Z3q7, Aq7, d1, d2, d3, s1, s2, s3, n12, n13, n23, ⟨D1e, D1u, D1s, D1x⟩, ⟨D2e, D2u, D2s, D2x⟩, ⟨D3e, D3u, D3s, D3x⟩, R1, R2, R3⟩ := hQ7
  have N7 := Fr.app N0 N7q
  have K8 : Keep h0 T7.heap [] := K6.trans K7 (allS (Or.inr sz_b5) all0)
  have gn_d1 : n0 ≤ d1 := Nat.le_trans (Nat.le_trans Z0 K6.1) s1
  have sz_d1 : h0.size ≤ d1 := Nat.le_trans K6.1 s1
  have gn_d2 : n0 ≤ d2 := Nat.le_trans (Nat.le_trans Z0 K6.1) s2
  have sz_d2 : h0.size ≤ d2 := Nat.le_trans K6.1 s2
  have gn_d3 : n0 ≤ d3 := Nat.le_trans (Nat.le_trans Z0 K6.1) s3
  have sz_d3 : h0.size ≤ d3 := Nat.le_trans K6.1 s3
  obtain ⟨T9, X9, e9, st9⟩ := getF X7 hx hZ hown (host := "") (Or.inl (hw _ (List.mem_of_getElem? (i := 24) rfl))) Via.refl rfl R3 (g := (mkF m 77 #[.val (.long q1), .second, .val (.int p2), .val (.int p3), .val (.long (q1 &&& (9223372036854775807 : Int64))), .second, .val (.int (p2 &&& (2147483647 : Int32))), .val (.int xs), .val (.int xu), .val (.int xk), .val (.int xz), .val (.ref b5), .unset] [(.ref b5)])) rfl rfl (hb hby at_77)
  obtain ⟨cq10, kq10, q10a, q10b, q10c⟩ := isOf hZ e9 D3e
  obtain ⟨_, _, ⟨T10, L10, k10, n10⟩, -, X10, ⟨Lc10, hQ10, l10, y10, z10⟩, st10⟩ := X9.virtualBack hx (y := (⟨"com/example/strikeshift/strikeshift/decimal/Decimal", "set", "(JI)Lcom/example/strikeshift/strikeshift/decimal/Decimal;"⟩ : MethodName)) (z := (⟨"com/example/strikeshift/strikeshift/decimal/Decimal", "set", "(JI)Lcom/example/strikeshift/strikeshift/decimal/Decimal;"⟩ : MethodName)) hown (mvT hZ (hw _ (List.mem_of_getElem? (i := 25) rfl))) (mvT hZ (hw _ (List.mem_of_getElem? (i := 26) rfl))) (notFace_of_selects (args := #[]) (mvT hZ (hw _ (List.mem_of_getElem? (i := 28) rfl)))) (mvT hZ (hw _ (List.mem_of_getElem? (i := 28) rfl))) (mvT hZ (hw _ (List.mem_of_getElem? (i := 27) rfl))) (by decide) (backOf (W := 0) (rm4 l Z a0 hw [] d3 (q1 &&& (9223372036854775807 : Int64)) (p2 &&& (2147483647 : Int32)) (0 : Int64) (0 : Int32) T7.heap n0 (Nat.le_trans Z0 K8.1) D3e gn_d3 D3u D3s D3x (own_u q1) (own_s p2)) hZ (hw _ (List.mem_of_getElem? (i := 29) rfl)) (hw _ (List.mem_of_getElem? (i := 13) rfl)) (by decide) (by decide)) q10a q10c (g := (mkF m 84 #[.val (.long q1), .second, .val (.int p2), .val (.int p3), .val (.long (q1 &&& (9223372036854775807 : Int64))), .second, .val (.int (p2 &&& (2147483647 : Int32))), .val (.int xs), .val (.int xu), .val (.int xk), .val (.int xz), .val (.ref b5), .unset] [(.int (p2 &&& (2147483647 : Int32))), (.long (q1 &&& (9223372036854775807 : Int64))), (.ref d3)])) rfl (by rw [hml]; rfl) (Steps.refl _) (argsL := [(.long (q1 &&& (9223372036854775807 : Int64))), (.int (p2 &&& (2147483647 : Int32)))]) (rest := []) (lenOf pd_1 rfl) rfl (by show 2 * 0 + _ ≤ _; exact Nat.le_of_eq rfl) (hb hby at_84) (fun _ _ => ⟨rfl, e9, (by decide : 4 + 0 ≤ _), (by decide : 18 + 0 ≤ _)⟩)
  dsimp only [Pt.U, Pt.locs, Pt.cells, Pt.slots] at X10 l10 y10 z10 st10 hQ10
  subst l10 y10 z10
  obtain ⟨rfl, N10q, K10, Eq10, U10, C10, X10q⟩ := hQ10
  have N10 := Fr.app N7 N10q
  have K11 : Keep h0 T10.heap [] := K8.trans K10 (allS (Or.inr sz_d3) all0)
  have f_12 := (R1.keep K10 (ninS (Nat.ne_of_lt (Nat.lt_of_lt_of_le lt_b5 s3)) nin0))
  obtain ⟨T13, X13, e13, st13⟩ := getF X10 hx hZ hown (host := "") (Or.inl (hw _ (List.mem_of_getElem? (i := 36) rfl))) Via.refl rfl f_12 (g := (mkF m 90 #[.val (.long q1), .second, .val (.int p2), .val (.int p3), .val (.long (q1 &&& (9223372036854775807 : Int64))), .second, .val (.int (p2 &&& (2147483647 : Int32))), .val (.int xs), .val (.int xu), .val (.int xk), .val (.int xz), .val (.ref b5), .unset] [(.ref b5)])) rfl rfl (hb hby at_90)
  have f_14 := (D1e.keep K10)
  have f_15 := (D1u.keep K10 (ninS n13 nin0))
  have f_16 := (D1s.keep K10 (ninS n13 nin0))
  have f_17 := (D1x.keep K10 (ninS n13 nin0))
  obtain ⟨cq18, kq18, q18a, q18b, q18c⟩ := isOf hZ e13 f_14
  obtain ⟨_, _, ⟨T18, L18, k18, n18⟩, -, X18, ⟨Lc18, hQ18, l18, y18, z18⟩, st18⟩ := X13.virtualBack hx (y := (⟨"com/example/strikeshift/strikeshift/decimal/Decimal", "set", "(JI)Lcom/example/strikeshift/strikeshift/decimal/Decimal;"⟩ : MethodName)) (z := (⟨"com/example/strikeshift/strikeshift/decimal/Decimal", "set", "(JI)Lcom/example/strikeshift/strikeshift/decimal/Decimal;"⟩ : MethodName)) hown (mvT hZ (hw _ (List.mem_of_getElem? (i := 25) rfl))) (mvT hZ (hw _ (List.mem_of_getElem? (i := 26) rfl))) (notFace_of_selects (args := #[]) (mvT hZ (hw _ (List.mem_of_getElem? (i := 28) rfl)))) (mvT hZ (hw _ (List.mem_of_getElem? (i := 28) rfl))) (mvT hZ (hw _ (List.mem_of_getElem? (i := 27) rfl))) (by decide) (backOf (W := 0) (rm4 l Z a0 hw [] d1 ((q1 &&& (9223372036854775807 : Int64)) ^^^ (1 : Int64)) (p2 &&& (2147483647 : Int32)) (0 : Int64) (0 : Int32) T10.heap n0 (Nat.le_trans Z0 K11.1) f_14 gn_d1 f_15 f_16 f_17 (own_x1 q1) (own_s p2)) hZ (hw _ (List.mem_of_getElem? (i := 29) rfl)) (hw _ (List.mem_of_getElem? (i := 13) rfl)) (by decide) (by decide)) q18a q18c (g := (mkF m 99 #[.val (.long q1), .second, .val (.int p2), .val (.int p3), .val (.long (q1 &&& (9223372036854775807 : Int64))), .second, .val (.int (p2 &&& (2147483647 : Int32))), .val (.int xs), .val (.int xu), .val (.int xk), .val (.int xz), .val (.ref b5), .unset] [(.int (p2 &&& (2147483647 : Int32))), (.long ((q1 &&& (9223372036854775807 : Int64)) ^^^ (1 : Int64))), (.ref d1)])) rfl (by rw [hml]; rfl) (Steps.refl _) (argsL := [(.long ((q1 &&& (9223372036854775807 : Int64)) ^^^ (1 : Int64))), (.int (p2 &&& (2147483647 : Int32)))]) (rest := []) (lenOf pd_1 rfl) rfl (by show 2 * 0 + _ ≤ _; exact Nat.le_of_eq rfl) (hb hby at_99) (fun _ _ => ⟨rfl, e13, (by decide : 4 + 0 ≤ _), (by decide : 18 + 0 ≤ _)⟩)
  dsimp only [Pt.U, Pt.locs, Pt.cells, Pt.slots] at X18 l18 y18 z18 st18 hQ18
  subst l18 y18 z18
  obtain ⟨rfl, N18q, K18, Eq18, U18, C18, X18q⟩ := hQ18
  have N18 := Fr.app N10 N18q
  have K19 : Keep h0 T18.heap [] := K11.trans K18 (allS (Or.inr sz_d1) all0)
  have f_20 := ((R2.keep K10 (ninS (Nat.ne_of_lt (Nat.lt_of_lt_of_le lt_b5 s3)) nin0)).keep K18 (ninS (Nat.ne_of_lt (Nat.lt_of_lt_of_le lt_b5 s1)) nin0))
  obtain ⟨T21, X21, e21, st21⟩ := getF X18 hx hZ hown (host := "") (Or.inl (hw _ (List.mem_of_getElem? (i := 37) rfl))) Via.refl rfl f_20 (g := (mkF m 105 #[.val (.long q1), .second, .val (.int p2), .val (.int p3), .val (.long (q1 &&& (9223372036854775807 : Int64))), .second, .val (.int (p2 &&& (2147483647 : Int32))), .val (.int xs), .val (.int xu), .val (.int xk), .val (.int xz), .val (.ref b5), .unset] [(.ref b5)])) rfl rfl (hb hby at_105)
  have f_22 := ((D2e.keep K10).keep K18)
  have f_23 := ((D2u.keep K10 (ninS n23 nin0)).keep K18 (ninS (Ne.symm n12) nin0))
  have f_24 := ((D2s.keep K10 (ninS n23 nin0)).keep K18 (ninS (Ne.symm n12) nin0))
  have f_25 := ((D2x.keep K10 (ninS n23 nin0)).keep K18 (ninS (Ne.symm n12) nin0))
  obtain ⟨cq26, kq26, q26a, q26b, q26c⟩ := isOf hZ e21 f_22
  obtain ⟨_, _, ⟨T26, L26, k26, n26⟩, -, X26, ⟨Lc26, hQ26, l26, y26, z26⟩, st26⟩ := X21.virtualBack hx (y := (⟨"com/example/strikeshift/strikeshift/decimal/Decimal", "set", "(JI)Lcom/example/strikeshift/strikeshift/decimal/Decimal;"⟩ : MethodName)) (z := (⟨"com/example/strikeshift/strikeshift/decimal/Decimal", "set", "(JI)Lcom/example/strikeshift/strikeshift/decimal/Decimal;"⟩ : MethodName)) hown (mvT hZ (hw _ (List.mem_of_getElem? (i := 25) rfl))) (mvT hZ (hw _ (List.mem_of_getElem? (i := 26) rfl))) (notFace_of_selects (args := #[]) (mvT hZ (hw _ (List.mem_of_getElem? (i := 28) rfl)))) (mvT hZ (hw _ (List.mem_of_getElem? (i := 28) rfl))) (mvT hZ (hw _ (List.mem_of_getElem? (i := 27) rfl))) (by decide) (backOf (W := 0) (rm4 l Z a0 hw [] d2 ((q1 &&& (9223372036854775807 : Int64)) ^^^ (2 : Int64)) (p2 &&& (2147483647 : Int32)) (0 : Int64) (0 : Int32) T18.heap n0 (Nat.le_trans Z0 K19.1) f_22 gn_d2 f_23 f_24 f_25 (own_x2 q1) (own_s p2)) hZ (hw _ (List.mem_of_getElem? (i := 29) rfl)) (hw _ (List.mem_of_getElem? (i := 13) rfl)) (by decide) (by decide)) q26a q26c (g := (mkF m 116 #[.val (.long q1), .second, .val (.int p2), .val (.int p3), .val (.long (q1 &&& (9223372036854775807 : Int64))), .second, .val (.int (p2 &&& (2147483647 : Int32))), .val (.int xs), .val (.int xu), .val (.int xk), .val (.int xz), .val (.ref b5), .unset] [(.int (p2 &&& (2147483647 : Int32))), (.long ((q1 &&& (9223372036854775807 : Int64)) ^^^ (2 : Int64))), (.ref d2)])) rfl (by rw [hml]; rfl) (Steps.refl _) (argsL := [(.long ((q1 &&& (9223372036854775807 : Int64)) ^^^ (2 : Int64))), (.int (p2 &&& (2147483647 : Int32)))]) (rest := []) (lenOf pd_1 rfl) rfl (by show 2 * 0 + _ ≤ _; exact Nat.le_of_eq rfl) (hb hby at_116) (fun _ _ => ⟨rfl, e21, (by decide : 4 + 0 ≤ _), (by decide : 18 + 0 ≤ _)⟩)
  dsimp only [Pt.U, Pt.locs, Pt.cells, Pt.slots] at X26 l26 y26 z26 st26 hQ26
  subst l26 y26 z26
  obtain ⟨rfl, N26q, K26, Eq26, U26, C26, X26q⟩ := hQ26
  have N26 := Fr.app N18 N26q
  have K27 : Keep h0 T26.heap [] := K19.trans K26 (allS (Or.inr sz_d2) all0)
  have f_28 := (((Z0q7.keep K10 (ninS (Nat.ne_of_lt (Nat.lt_of_lt_of_le lt_b5 s3)) nin0)).keep K18 (ninS (Nat.ne_of_lt (Nat.lt_of_lt_of_le lt_b5 s1)) nin0)).keep K26 (ninS (Nat.ne_of_lt (Nat.lt_of_lt_of_le lt_b5 s2)) nin0))
  have f_29 := (((Eq7.keep K10).keep K18).keep K26)
  obtain ⟨T30, h30, X30, e30, W30, st30⟩ := putFN X26 hx hZ hown (hw _ (List.mem_of_getElem? (i := 39) rfl)) Via.refl rfl f_28 f_29 (Or.inl (hw _ (List.mem_of_getElem? (i := 40) rfl))) (hw _ (List.mem_of_getElem? (i := 3) rfl)) (ty := .boolean) (v := (.int xs)) (v' := (.int xs)) (by decide) (own_nar hxs) (own_fit hxs) (g := (mkF m 124 #[.val (.long q1), .second, .val (.int p2), .val (.int p3), .val (.long (q1 &&& (9223372036854775807 : Int64))), .second, .val (.int (p2 &&& (2147483647 : Int32))), .val (.int xs), .val (.int xu), .val (.int xk), .val (.int xz), .val (.ref b5), .unset] [(.int xs), (.ref b5)])) rfl rfl (hb hby at_124)
  have Fw30 := f_28.same W30
  have N30 := Fr.snoc X30 N26 gn_b5
  have K31 : Keep h0 h30 [] := K27.wr W30 (Or.inr sz_b5)
  have pre32 : ∀ t, Steps p.tables e below (T30.setTop (mkF m 127 #[.val (.long q1), .second, .val (.int p2), .val (.int p3), .val (.long (q1 &&& (9223372036854775807 : Int64))), .second, .val (.int (p2 &&& (2147483647 : Int32))), .val (.int xs), .val (.int xu), .val (.int xk), .val (.int xz), .val (.ref b5), .unset] [])) t → Steps p.tables e below S0 t := by
    intro t k
    refine pre_xz t ?_
    show Steps p.tables e below (s₁.setTop (mkF m 64 #[.val (.long q1), .second, .val (.int p2), .val (.int p3), .val (.long (q1 &&& (9223372036854775807 : Int64))), .second, .val (.int (p2 &&& (2147483647 : Int32))), .val (.int xs), .val (.int xu), .val (.int xk), .unset, .unset, .unset] [(.int xz)])) _
    refine XS.istore X0.here hx rfl (hb hby at_64) rfl (l' := #[.val (.long q1), .second, .val (.int p2), .val (.int p3), .val (.long (q1 &&& (9223372036854775807 : Int64))), .second, .val (.int (p2 &&& (2147483647 : Int32))), .val (.int xs), .val (.int xu), .val (.int xk), .val (.int xz), .unset, .unset]) rfl ?_
    show Steps p.tables e below (s₁.setTop (mkF m 66 #[.val (.long q1), .second, .val (.int p2), .val (.int p3), .val (.long (q1 &&& (9223372036854775807 : Int64))), .second, .val (.int (p2 &&& (2147483647 : Int32))), .val (.int xs), .val (.int xu), .val (.int xk), .val (.int xz), .unset, .unset] [])) _
    refine st5 _ ?_
    show Steps p.tables e below (T5.setTop (mkF m 69 #[.val (.long q1), .second, .val (.int p2), .val (.int p3), .val (.long (q1 &&& (9223372036854775807 : Int64))), .second, .val (.int (p2 &&& (2147483647 : Int32))), .val (.int xs), .val (.int xu), .val (.int xk), .val (.int xz), .unset, .unset] [(.ref b5)])) _
    refine XS.dup X5.here hx rfl (hb hby at_69) rfl rfl ?_
    show Steps p.tables e below (T5.setTop (mkF m 70 #[.val (.long q1), .second, .val (.int p2), .val (.int p3), .val (.long (q1 &&& (9223372036854775807 : Int64))), .second, .val (.int (p2 &&& (2147483647 : Int32))), .val (.int xs), .val (.int xu), .val (.int xk), .val (.int xz), .unset, .unset] [(.ref b5), (.ref b5)])) _
    refine st7.trans ?_
    show Steps p.tables e below (T7.setTop (mkF m 73 #[.val (.long q1), .second, .val (.int p2), .val (.int p3), .val (.long (q1 &&& (9223372036854775807 : Int64))), .second, .val (.int (p2 &&& (2147483647 : Int32))), .val (.int xs), .val (.int xu), .val (.int xk), .val (.int xz), .unset, .unset] [(.ref b5)])) _
    refine XS.astore X7.here hx rfl (hb hby at_73) rfl rfl (l' := #[.val (.long q1), .second, .val (.int p2), .val (.int p3), .val (.long (q1 &&& (9223372036854775807 : Int64))), .second, .val (.int (p2 &&& (2147483647 : Int32))), .val (.int xs), .val (.int xu), .val (.int xk), .val (.int xz), .val (.ref b5), .unset]) rfl ?_
    show Steps p.tables e below (T7.setTop (mkF m 75 #[.val (.long q1), .second, .val (.int p2), .val (.int p3), .val (.long (q1 &&& (9223372036854775807 : Int64))), .second, .val (.int (p2 &&& (2147483647 : Int32))), .val (.int xs), .val (.int xu), .val (.int xk), .val (.int xz), .val (.ref b5), .unset] [])) _
    refine XS.aload X7.here hx rfl (hb hby at_75) rfl rfl ?_
    show Steps p.tables e below (T7.setTop (mkF m 77 #[.val (.long q1), .second, .val (.int p2), .val (.int p3), .val (.long (q1 &&& (9223372036854775807 : Int64))), .second, .val (.int (p2 &&& (2147483647 : Int32))), .val (.int xs), .val (.int xu), .val (.int xk), .val (.int xz), .val (.ref b5), .unset] [(.ref b5)])) _
    refine st9 _ ?_
    show Steps p.tables e below (T9.setTop (mkF m 80 #[.val (.long q1), .second, .val (.int p2), .val (.int p3), .val (.long (q1 &&& (9223372036854775807 : Int64))), .second, .val (.int (p2 &&& (2147483647 : Int32))), .val (.int xs), .val (.int xu), .val (.int xk), .val (.int xz), .val (.ref b5), .unset] [(.ref d3)])) _
    refine XS.lload X9.here hx rfl (hb hby at_80) rfl ?_
    show Steps p.tables e below (T9.setTop (mkF m 82 #[.val (.long q1), .second, .val (.int p2), .val (.int p3), .val (.long (q1 &&& (9223372036854775807 : Int64))), .second, .val (.int (p2 &&& (2147483647 : Int32))), .val (.int xs), .val (.int xu), .val (.int xk), .val (.int xz), .val (.ref b5), .unset] [(.long (q1 &&& (9223372036854775807 : Int64))), (.ref d3)])) _
    refine XS.iload X9.here hx rfl (hb hby at_82) rfl ?_
    show Steps p.tables e below (T9.setTop (mkF m 84 #[.val (.long q1), .second, .val (.int p2), .val (.int p3), .val (.long (q1 &&& (9223372036854775807 : Int64))), .second, .val (.int (p2 &&& (2147483647 : Int32))), .val (.int xs), .val (.int xu), .val (.int xk), .val (.int xz), .val (.ref b5), .unset] [(.int (p2 &&& (2147483647 : Int32))), (.long (q1 &&& (9223372036854775807 : Int64))), (.ref d3)])) _
    refine st10.trans ?_
    show Steps p.tables e below (T10.setTop (mkF m 87 #[.val (.long q1), .second, .val (.int p2), .val (.int p3), .val (.long (q1 &&& (9223372036854775807 : Int64))), .second, .val (.int (p2 &&& (2147483647 : Int32))), .val (.int xs), .val (.int xu), .val (.int xk), .val (.int xz), .val (.ref b5), .unset] [(.ref d3)])) _
    refine XS.pop X10.here hx rfl (hb hby at_87) rfl rfl ?_
    show Steps p.tables e below (T10.setTop (mkF m 88 #[.val (.long q1), .second, .val (.int p2), .val (.int p3), .val (.long (q1 &&& (9223372036854775807 : Int64))), .second, .val (.int (p2 &&& (2147483647 : Int32))), .val (.int xs), .val (.int xu), .val (.int xk), .val (.int xz), .val (.ref b5), .unset] [])) _
    refine XS.aload X10.here hx rfl (hb hby at_88) rfl rfl ?_
    show Steps p.tables e below (T10.setTop (mkF m 90 #[.val (.long q1), .second, .val (.int p2), .val (.int p3), .val (.long (q1 &&& (9223372036854775807 : Int64))), .second, .val (.int (p2 &&& (2147483647 : Int32))), .val (.int xs), .val (.int xu), .val (.int xk), .val (.int xz), .val (.ref b5), .unset] [(.ref b5)])) _
    refine st13 _ ?_
    show Steps p.tables e below (T13.setTop (mkF m 93 #[.val (.long q1), .second, .val (.int p2), .val (.int p3), .val (.long (q1 &&& (9223372036854775807 : Int64))), .second, .val (.int (p2 &&& (2147483647 : Int32))), .val (.int xs), .val (.int xu), .val (.int xk), .val (.int xz), .val (.ref b5), .unset] [(.ref d1)])) _
    refine XS.lload X13.here hx rfl (hb hby at_93) rfl ?_
    show Steps p.tables e below (T13.setTop (mkF m 95 #[.val (.long q1), .second, .val (.int p2), .val (.int p3), .val (.long (q1 &&& (9223372036854775807 : Int64))), .second, .val (.int (p2 &&& (2147483647 : Int32))), .val (.int xs), .val (.int xu), .val (.int xk), .val (.int xz), .val (.ref b5), .unset] [(.long (q1 &&& (9223372036854775807 : Int64))), (.ref d1)])) _
    refine XS.lconst X13.here hx rfl (hb hby at_95) ?_
    show Steps p.tables e below (T13.setTop (mkF m 96 #[.val (.long q1), .second, .val (.int p2), .val (.int p3), .val (.long (q1 &&& (9223372036854775807 : Int64))), .second, .val (.int (p2 &&& (2147483647 : Int32))), .val (.int xs), .val (.int xu), .val (.int xk), .val (.int xz), .val (.ref b5), .unset] [(.long (1 : Int64)), (.long (q1 &&& (9223372036854775807 : Int64))), (.ref d1)])) _
    refine XS.lxor X13.here hx rfl (hb hby at_96) rfl ?_
    show Steps p.tables e below (T13.setTop (mkF m 97 #[.val (.long q1), .second, .val (.int p2), .val (.int p3), .val (.long (q1 &&& (9223372036854775807 : Int64))), .second, .val (.int (p2 &&& (2147483647 : Int32))), .val (.int xs), .val (.int xu), .val (.int xk), .val (.int xz), .val (.ref b5), .unset] [(.long ((q1 &&& (9223372036854775807 : Int64)) ^^^ (1 : Int64))), (.ref d1)])) _
    refine XS.iload X13.here hx rfl (hb hby at_97) rfl ?_
    show Steps p.tables e below (T13.setTop (mkF m 99 #[.val (.long q1), .second, .val (.int p2), .val (.int p3), .val (.long (q1 &&& (9223372036854775807 : Int64))), .second, .val (.int (p2 &&& (2147483647 : Int32))), .val (.int xs), .val (.int xu), .val (.int xk), .val (.int xz), .val (.ref b5), .unset] [(.int (p2 &&& (2147483647 : Int32))), (.long ((q1 &&& (9223372036854775807 : Int64)) ^^^ (1 : Int64))), (.ref d1)])) _
    refine st18.trans ?_
    show Steps p.tables e below (T18.setTop (mkF m 102 #[.val (.long q1), .second, .val (.int p2), .val (.int p3), .val (.long (q1 &&& (9223372036854775807 : Int64))), .second, .val (.int (p2 &&& (2147483647 : Int32))), .val (.int xs), .val (.int xu), .val (.int xk), .val (.int xz), .val (.ref b5), .unset] [(.ref d1)])) _
    refine XS.pop X18.here hx rfl (hb hby at_102) rfl rfl ?_
    show Steps p.tables e below (T18.setTop (mkF m 103 #[.val (.long q1), .second, .val (.int p2), .val (.int p3), .val (.long (q1 &&& (9223372036854775807 : Int64))), .second, .val (.int (p2 &&& (2147483647 : Int32))), .val (.int xs), .val (.int xu), .val (.int xk), .val (.int xz), .val (.ref b5), .unset] [])) _
    refine XS.aload X18.here hx rfl (hb hby at_103) rfl rfl ?_
    show Steps p.tables e below (T18.setTop (mkF m 105 #[.val (.long q1), .second, .val (.int p2), .val (.int p3), .val (.long (q1 &&& (9223372036854775807 : Int64))), .second, .val (.int (p2 &&& (2147483647 : Int32))), .val (.int xs), .val (.int xu), .val (.int xk), .val (.int xz), .val (.ref b5), .unset] [(.ref b5)])) _
    refine st21 _ ?_
    show Steps p.tables e below (T21.setTop (mkF m 108 #[.val (.long q1), .second, .val (.int p2), .val (.int p3), .val (.long (q1 &&& (9223372036854775807 : Int64))), .second, .val (.int (p2 &&& (2147483647 : Int32))), .val (.int xs), .val (.int xu), .val (.int xk), .val (.int xz), .val (.ref b5), .unset] [(.ref d2)])) _
    refine XS.lload X21.here hx rfl (hb hby at_108) rfl ?_
    show Steps p.tables e below (T21.setTop (mkF m 110 #[.val (.long q1), .second, .val (.int p2), .val (.int p3), .val (.long (q1 &&& (9223372036854775807 : Int64))), .second, .val (.int (p2 &&& (2147483647 : Int32))), .val (.int xs), .val (.int xu), .val (.int xk), .val (.int xz), .val (.ref b5), .unset] [(.long (q1 &&& (9223372036854775807 : Int64))), (.ref d2)])) _
    refine X21.ldc2Long hx hown (mvT hZ (hw _ (List.mem_of_getElem? (i := 38) rfl))) (g := (mkF m 110 #[.val (.long q1), .second, .val (.int p2), .val (.int p3), .val (.long (q1 &&& (9223372036854775807 : Int64))), .second, .val (.int (p2 &&& (2147483647 : Int32))), .val (.int xs), .val (.int xu), .val (.int xk), .val (.int xz), .val (.ref b5), .unset] [(.long (q1 &&& (9223372036854775807 : Int64))), (.ref d2)])) rfl (hb hby at_110) _ ?_
    show Steps p.tables e below (T21.setTop (mkF m 113 #[.val (.long q1), .second, .val (.int p2), .val (.int p3), .val (.long (q1 &&& (9223372036854775807 : Int64))), .second, .val (.int (p2 &&& (2147483647 : Int32))), .val (.int xs), .val (.int xu), .val (.int xk), .val (.int xz), .val (.ref b5), .unset] [(.long (2 : Int64)), (.long (q1 &&& (9223372036854775807 : Int64))), (.ref d2)])) _
    refine XS.lxor X21.here hx rfl (hb hby at_113) rfl ?_
    show Steps p.tables e below (T21.setTop (mkF m 114 #[.val (.long q1), .second, .val (.int p2), .val (.int p3), .val (.long (q1 &&& (9223372036854775807 : Int64))), .second, .val (.int (p2 &&& (2147483647 : Int32))), .val (.int xs), .val (.int xu), .val (.int xk), .val (.int xz), .val (.ref b5), .unset] [(.long ((q1 &&& (9223372036854775807 : Int64)) ^^^ (2 : Int64))), (.ref d2)])) _
    refine XS.iload X21.here hx rfl (hb hby at_114) rfl ?_
    show Steps p.tables e below (T21.setTop (mkF m 116 #[.val (.long q1), .second, .val (.int p2), .val (.int p3), .val (.long (q1 &&& (9223372036854775807 : Int64))), .second, .val (.int (p2 &&& (2147483647 : Int32))), .val (.int xs), .val (.int xu), .val (.int xk), .val (.int xz), .val (.ref b5), .unset] [(.int (p2 &&& (2147483647 : Int32))), (.long ((q1 &&& (9223372036854775807 : Int64)) ^^^ (2 : Int64))), (.ref d2)])) _
    refine st26.trans ?_
    show Steps p.tables e below (T26.setTop (mkF m 119 #[.val (.long q1), .second, .val (.int p2), .val (.int p3), .val (.long (q1 &&& (9223372036854775807 : Int64))), .second, .val (.int (p2 &&& (2147483647 : Int32))), .val (.int xs), .val (.int xu), .val (.int xk), .val (.int xz), .val (.ref b5), .unset] [(.ref d2)])) _
    refine XS.pop X26.here hx rfl (hb hby at_119) rfl rfl ?_
    show Steps p.tables e below (T26.setTop (mkF m 120 #[.val (.long q1), .second, .val (.int p2), .val (.int p3), .val (.long (q1 &&& (9223372036854775807 : Int64))), .second, .val (.int (p2 &&& (2147483647 : Int32))), .val (.int xs), .val (.int xu), .val (.int xk), .val (.int xz), .val (.ref b5), .unset] [])) _
    refine XS.aload X26.here hx rfl (hb hby at_120) rfl rfl ?_
    show Steps p.tables e below (T26.setTop (mkF m 122 #[.val (.long q1), .second, .val (.int p2), .val (.int p3), .val (.long (q1 &&& (9223372036854775807 : Int64))), .second, .val (.int (p2 &&& (2147483647 : Int32))), .val (.int xs), .val (.int xu), .val (.int xk), .val (.int xz), .val (.ref b5), .unset] [(.ref b5)])) _
    refine XS.iload X26.here hx rfl (hb hby at_122) rfl ?_
    show Steps p.tables e below (T26.setTop (mkF m 124 #[.val (.long q1), .second, .val (.int p2), .val (.int p3), .val (.long (q1 &&& (9223372036854775807 : Int64))), .second, .val (.int (p2 &&& (2147483647 : Int32))), .val (.int xs), .val (.int xu), .val (.int xk), .val (.int xz), .val (.ref b5), .unset] [(.int xs), (.ref b5)])) _
    refine st30 _ ?_
    exact k
  have f_33 := ((((Z1q7.keep K10 (ninS (Nat.ne_of_lt (Nat.lt_of_lt_of_le lt_b5 s3)) nin0)).keep K18 (ninS (Nat.ne_of_lt (Nat.lt_of_lt_of_le lt_b5 s1)) nin0)).keep K26 (ninS (Nat.ne_of_lt (Nat.lt_of_lt_of_le lt_b5 s2)) nin0)).other W30 (Or.inr (slot_ne (Or.inl (hw _ (List.mem_of_getElem? (i := 42) rfl))) (Or.inl (hw _ (List.mem_of_getElem? (i := 40) rfl))) (by decide) (t := .boolean) (t' := .boolean) (by decide) (by decide))))
  have f_34 := (f_29.wr W30)
  obtain ⟨T35, h35, X35, e35, W35, st35⟩ := putFN X30 hx hZ hown (hw _ (List.mem_of_getElem? (i := 41) rfl)) Via.refl e30 f_33 f_34 (Or.inl (hw _ (List.mem_of_getElem? (i := 42) rfl))) (hw _ (List.mem_of_getElem? (i := 3) rfl)) (ty := .boolean) (v := (.int xk)) (v' := (.int xk)) (by decide) (own_nar hxk) (own_fit hxk) (g := (mkF m 131 #[.val (.long q1), .second, .val (.int p2), .val (.int p3), .val (.long (q1 &&& (9223372036854775807 : Int64))), .second, .val (.int (p2 &&& (2147483647 : Int32))), .val (.int xs), .val (.int xu), .val (.int xk), .val (.int xz), .val (.ref b5), .unset] [(.int xk), (.ref b5)])) rfl rfl (hb hby at_131)
  have Fw35 := f_33.same W35
  have N35 := Fr.snoc X35 N30 gn_b5
  have K36 : Keep h0 h35 [] := K31.wr W35 (Or.inr sz_b5)
  have f_37 := (((((Z2q7.keep K10 (ninS (Nat.ne_of_lt (Nat.lt_of_lt_of_le lt_b5 s3)) nin0)).keep K18 (ninS (Nat.ne_of_lt (Nat.lt_of_lt_of_le lt_b5 s1)) nin0)).keep K26 (ninS (Nat.ne_of_lt (Nat.lt_of_lt_of_le lt_b5 s2)) nin0)).other W30 (Or.inr (slot_ne (Or.inl (hw _ (List.mem_of_getElem? (i := 44) rfl))) (Or.inl (hw _ (List.mem_of_getElem? (i := 40) rfl))) (by decide) (t := .boolean) (t' := .boolean) (by decide) (by decide)))).other W35 (Or.inr (slot_ne (Or.inl (hw _ (List.mem_of_getElem? (i := 44) rfl))) (Or.inl (hw _ (List.mem_of_getElem? (i := 42) rfl))) (by decide) (t := .boolean) (t' := .boolean) (by decide) (by decide))))
  have f_38 := (f_34.wr W35)
  obtain ⟨T39, h39, X39, e39, W39, st39⟩ := putFN X35 hx hZ hown (hw _ (List.mem_of_getElem? (i := 43) rfl)) Via.refl e35 f_37 f_38 (Or.inl (hw _ (List.mem_of_getElem? (i := 44) rfl))) (hw _ (List.mem_of_getElem? (i := 3) rfl)) (ty := .boolean) (v := (.int xz)) (v' := (.int xz)) (by decide) (own_nar hxz) (own_fit hxz) (g := (mkF m 138 #[.val (.long q1), .second, .val (.int p2), .val (.int p3), .val (.long (q1 &&& (9223372036854775807 : Int64))), .second, .val (.int (p2 &&& (2147483647 : Int32))), .val (.int xs), .val (.int xu), .val (.int xk), .val (.int xz), .val (.ref b5), .unset] [(.int xz), (.ref b5)])) rfl rfl (hb hby at_138)
  have Fw39 := f_37.same W39
  have N39 := Fr.snoc X39 N35 gn_b5
  have K40 : Keep h0 h39 [] := K36.wr W39 (Or.inr sz_b5)
  have pre41 : ∀ t, Steps p.tables e below (T39.setTop (mkF m 143 #[.val (.long q1), .second, .val (.int p2), .val (.int p3), .val (.long (q1 &&& (9223372036854775807 : Int64))), .second, .val (.int (p2 &&& (2147483647 : Int32))), .val (.int xs), .val (.int xu), .val (.int xk), .val (.int xz), .val (.ref b5), .unset] [(.int xu)])) t → Steps p.tables e below S0 t := by
    intro t k
    refine pre32 t ?_
    show Steps p.tables e below (T30.setTop (mkF m 127 #[.val (.long q1), .second, .val (.int p2), .val (.int p3), .val (.long (q1 &&& (9223372036854775807 : Int64))), .second, .val (.int (p2 &&& (2147483647 : Int32))), .val (.int xs), .val (.int xu), .val (.int xk), .val (.int xz), .val (.ref b5), .unset] [])) _
    refine XS.aload X30.here hx rfl (hb hby at_127) rfl rfl ?_
    show Steps p.tables e below (T30.setTop (mkF m 129 #[.val (.long q1), .second, .val (.int p2), .val (.int p3), .val (.long (q1 &&& (9223372036854775807 : Int64))), .second, .val (.int (p2 &&& (2147483647 : Int32))), .val (.int xs), .val (.int xu), .val (.int xk), .val (.int xz), .val (.ref b5), .unset] [(.ref b5)])) _
    refine XS.iload X30.here hx rfl (hb hby at_129) rfl ?_
    show Steps p.tables e below (T30.setTop (mkF m 131 #[.val (.long q1), .second, .val (.int p2), .val (.int p3), .val (.long (q1 &&& (9223372036854775807 : Int64))), .second, .val (.int (p2 &&& (2147483647 : Int32))), .val (.int xs), .val (.int xu), .val (.int xk), .val (.int xz), .val (.ref b5), .unset] [(.int xk), (.ref b5)])) _
    refine st35 _ ?_
    show Steps p.tables e below (T35.setTop (mkF m 134 #[.val (.long q1), .second, .val (.int p2), .val (.int p3), .val (.long (q1 &&& (9223372036854775807 : Int64))), .second, .val (.int (p2 &&& (2147483647 : Int32))), .val (.int xs), .val (.int xu), .val (.int xk), .val (.int xz), .val (.ref b5), .unset] [])) _
    refine XS.aload X35.here hx rfl (hb hby at_134) rfl rfl ?_
    show Steps p.tables e below (T35.setTop (mkF m 136 #[.val (.long q1), .second, .val (.int p2), .val (.int p3), .val (.long (q1 &&& (9223372036854775807 : Int64))), .second, .val (.int (p2 &&& (2147483647 : Int32))), .val (.int xs), .val (.int xu), .val (.int xk), .val (.int xz), .val (.ref b5), .unset] [(.ref b5)])) _
    refine XS.iload X35.here hx rfl (hb hby at_136) rfl ?_
    show Steps p.tables e below (T35.setTop (mkF m 138 #[.val (.long q1), .second, .val (.int p2), .val (.int p3), .val (.long (q1 &&& (9223372036854775807 : Int64))), .second, .val (.int (p2 &&& (2147483647 : Int32))), .val (.int xs), .val (.int xu), .val (.int xk), .val (.int xz), .val (.ref b5), .unset] [(.int xz), (.ref b5)])) _
    refine st39 _ ?_
    show Steps p.tables e below (T39.setTop (mkF m 141 #[.val (.long q1), .second, .val (.int p2), .val (.int p3), .val (.long (q1 &&& (9223372036854775807 : Int64))), .second, .val (.int (p2 &&& (2147483647 : Int32))), .val (.int xs), .val (.int xu), .val (.int xk), .val (.int xz), .val (.ref b5), .unset] [])) _
    refine XS.iload X39.here hx rfl (hb hby at_141) rfl ?_
    exact k
  by_cases cu : xu = (0 : Int32)
  · have pre42 : ∀ t, Steps p.tables e below (T39.setTop (mkF m 153 #[.val (.long q1), .second, .val (.int p2), .val (.int p3), .val (.long (q1 &&& (9223372036854775807 : Int64))), .second, .val (.int (p2 &&& (2147483647 : Int32))), .val (.int xs), .val (.int xu), .val (.int xk), .val (.int xz), .val (.ref b5), .unset] [(.ref b5)])) t → Steps p.tables e below S0 t := by
      intro t k
      refine pre41 t ?_
      show Steps p.tables e below (T39.setTop (mkF m 143 #[.val (.long q1), .second, .val (.int p2), .val (.int p3), .val (.long (q1 &&& (9223372036854775807 : Int64))), .second, .val (.int (p2 &&& (2147483647 : Int32))), .val (.int xs), .val (.int xu), .val (.int xk), .val (.int xz), .val (.ref b5), .unset] [(.int xu)])) _
      refine XS.ifYes X39.here hx rfl (pc0 := 143) (pc' := 151) rfl (hb hby at_143) rfl ((if0 _ _).trans (teq cu).1) (by decide) (by decide) ?_
      show Steps p.tables e below (T39.setTop (mkF m 151 #[.val (.long q1), .second, .val (.int p2), .val (.int p3), .val (.long (q1 &&& (9223372036854775807 : Int64))), .second, .val (.int (p2 &&& (2147483647 : Int32))), .val (.int xs), .val (.int xu), .val (.int xk), .val (.int xz), .val (.ref b5), .unset] [])) _
      refine XS.aload X39.here hx rfl (hb hby at_151) rfl rfl ?_
      exact k
    by_cases cs : xs = (0 : Int32)
    · have f_43 := ((Fw30.other W35 (Or.inr (slot_ne (Or.inl (hw _ (List.mem_of_getElem? (i := 40) rfl))) (Or.inl (hw _ (List.mem_of_getElem? (i := 42) rfl))) (by decide) (t := .boolean) (t' := .boolean) (by decide) (by decide)))).other W39 (Or.inr (slot_ne (Or.inl (hw _ (List.mem_of_getElem? (i := 40) rfl))) (Or.inl (hw _ (List.mem_of_getElem? (i := 44) rfl))) (by decide) (t := .boolean) (t' := .boolean) (by decide) (by decide))))
      have f_45 := (f_38.wr W39)
      obtain ⟨cq44, kq44, q44a, q44b, q44c⟩ := isOf hZ e39 f_45
      obtain ⟨_, _, ⟨T44, L44, k44, n44⟩, -, X44, ⟨Lc44, hQ44, l44, y44, z44⟩, st44⟩ := X39.virtualBack hx (y := (⟨"com/example/strikeshift/strikeshift/adjust/NewTerms", "settlementPrice", "()Lcom/example/strikeshift/strikeshift/decimal/Decimal;"⟩ : MethodName)) (z := (⟨"com/example/strikeshift/strikeshift/adjust/NewTerms", "settlementPrice", "()Lcom/example/strikeshift/strikeshift/decimal/Decimal;"⟩ : MethodName)) hown (mvT hZ (hw _ (List.mem_of_getElem? (i := 45) rfl))) (mvT hZ (hw _ (List.mem_of_getElem? (i := 46) rfl))) (notFace_of_selects (args := #[]) (mvT hZ (hw _ (List.mem_of_getElem? (i := 48) rfl)))) (mvT hZ (hw _ (List.mem_of_getElem? (i := 48) rfl))) (mvT hZ (hw _ (List.mem_of_getElem? (i := 47) rfl))) (by decide) (backOf (W := 0) (rm5z l Z a0 hw [] b5 h39 n0 (Nat.le_trans Z0 K40.1) (cs ▸ f_43)) hZ (hw _ (List.mem_of_getElem? (i := 49) rfl)) (hw _ (List.mem_of_getElem? (i := 4) rfl)) (by decide) (by decide)) q44a q44c (g := (mkF m 153 #[.val (.long q1), .second, .val (.int p2), .val (.int p3), .val (.long (q1 &&& (9223372036854775807 : Int64))), .second, .val (.int (p2 &&& (2147483647 : Int32))), .val (.int xs), .val (.int xu), .val (.int xk), .val (.int xz), .val (.ref b5), .unset] [(.ref b5)])) rfl (by rw [hml]; rfl) (Steps.refl _) (argsL := []) (rest := []) (lenOf pd_2 rfl) rfl (by show 2 * 0 + _ ≤ _; exact Nat.le_of_eq rfl) (hb hby at_153) (fun _ _ => ⟨rfl, e39, (by decide : 4 + 0 ≤ _), (by decide : 18 + 0 ≤ _)⟩)
      dsimp only [Pt.U, Pt.locs, Pt.cells, Pt.slots] at X44 l44 y44 z44 st44 hQ44
      subst l44 y44 z44
      obtain ⟨rfl, N44q, eq44⟩ := hQ44
      have N44 := Fr.app N39 N44q
      have e44 : T44.heap = h39 := eq44
      obtain ⟨fs, hr, hrun, hended, hW, hsame⟩ := X44.leave (v := some (.int (1 : Int32))) (fun h => by rw [Bd.returns] at h; cases h)
      refine ⟨_, _, pre42 _ ?_, hrun, hended, _, _, rfl, ?_, ⟨_, rfl⟩, hW, hsame.mono (by decide) (by decide)⟩
      · show Steps p.tables e below (T39.setTop (mkF m 153 #[.val (.long q1), .second, .val (.int p2), .val (.int p3), .val (.long (q1 &&& (9223372036854775807 : Int64))), .second, .val (.int (p2 &&& (2147483647 : Int32))), .val (.int xs), .val (.int xu), .val (.int xk), .val (.int xz), .val (.ref b5), .unset] [(.ref b5)])) _
        refine st44.trans ?_
        show Steps p.tables e below (T44.setTop (mkF m 156 #[.val (.long q1), .second, .val (.int p2), .val (.int p3), .val (.long (q1 &&& (9223372036854775807 : Int64))), .second, .val (.int (p2 &&& (2147483647 : Int32))), .val (.int xs), .val (.int xu), .val (.int xk), .val (.int xz), .val (.ref b5), .unset] [.null])) _
        refine XS.astore X44.here hx rfl (hb hby at_156) rfl rfl (l' := #[.val (.long q1), .second, .val (.int p2), .val (.int p3), .val (.long (q1 &&& (9223372036854775807 : Int64))), .second, .val (.int (p2 &&& (2147483647 : Int32))), .val (.int xs), .val (.int xu), .val (.int xk), .val (.int xz), .val (.ref b5), .val .null]) rfl ?_
        show Steps p.tables e below (T44.setTop (mkF m 158 #[.val (.long q1), .second, .val (.int p2), .val (.int p3), .val (.long (q1 &&& (9223372036854775807 : Int64))), .second, .val (.int (p2 &&& (2147483647 : Int32))), .val (.int xs), .val (.int xu), .val (.int xk), .val (.int xz), .val (.ref b5), .val .null] [])) _
        refine XS.iload X44.here hx rfl (hb hby at_158) rfl ?_
        show Steps p.tables e below (T44.setTop (mkF m 160 #[.val (.long q1), .second, .val (.int p2), .val (.int p3), .val (.long (q1 &&& (9223372036854775807 : Int64))), .second, .val (.int (p2 &&& (2147483647 : Int32))), .val (.int xs), .val (.int xu), .val (.int xk), .val (.int xz), .val (.ref b5), .val .null] [(.int xs)])) _
        refine XS.ifYes X44.here hx rfl (pc0 := 160) (pc' := 168) rfl (hb hby at_160) rfl ((if0 _ _).trans (teq cs).1) (by decide) (by decide) ?_
        show Steps p.tables e below (T44.setTop (mkF m 168 #[.val (.long q1), .second, .val (.int p2), .val (.int p3), .val (.long (q1 &&& (9223372036854775807 : Int64))), .second, .val (.int (p2 &&& (2147483647 : Int32))), .val (.int xs), .val (.int xu), .val (.int xk), .val (.int xz), .val (.ref b5), .val .null] [])) _
        refine XS.aload X44.here hx rfl (hb hby at_168) rfl rfl ?_
        show Steps p.tables e below (T44.setTop (mkF m 170 #[.val (.long q1), .second, .val (.int p2), .val (.int p3), .val (.long (q1 &&& (9223372036854775807 : Int64))), .second, .val (.int (p2 &&& (2147483647 : Int32))), .val (.int xs), .val (.int xu), .val (.int xk), .val (.int xz), .val (.ref b5), .val .null] [.null])) _
        refine XS.ifnonnullNo X44.here hx rfl (hb hby at_170) rfl ?_
        show Steps p.tables e below (T44.setTop (mkF m 173 #[.val (.long q1), .second, .val (.int p2), .val (.int p3), .val (.long (q1 &&& (9223372036854775807 : Int64))), .second, .val (.int (p2 &&& (2147483647 : Int32))), .val (.int xs), .val (.int xu), .val (.int xk), .val (.int xz), .val (.ref b5), .val .null] [])) _
        refine XS.iconst X44.here hx rfl (hb hby at_173) ?_
        show Steps p.tables e below (T44.setTop (mkF m 174 #[.val (.long q1), .second, .val (.int p2), .val (.int p3), .val (.long (q1 &&& (9223372036854775807 : Int64))), .second, .val (.int (p2 &&& (2147483647 : Int32))), .val (.int xs), .val (.int xu), .val (.int xk), .val (.int xz), .val (.ref b5), .val .null] [(.int (1 : Int32))])) _
        refine XS.goto X44.here hx rfl (pc0 := 174) (pc' := 178) rfl (hb hby at_174) (by decide) (by decide) ?_
        show Steps p.tables e below (T44.setTop (mkF m 178 #[.val (.long q1), .second, .val (.int p2), .val (.int p3), .val (.long (q1 &&& (9223372036854775807 : Int64))), .second, .val (.int (p2 &&& (2147483647 : Int32))), .val (.int xs), .val (.int xu), .val (.int xk), .val (.int xz), .val (.ref b5), .val .null] [(.int (1 : Int32))])) _
        exact retN X44 hx (t := .boolean) Bd.returns (by simp) (hb hby at_178) hr
      · show Q_rm0 Z q1 p2 p3 wA h0 n0 _ T44.heap _
        rw [e44]
        exact ⟨rfl, N44, trivial⟩
    · have f_46 := ((Fw30.other W35 (Or.inr (slot_ne (Or.inl (hw _ (List.mem_of_getElem? (i := 40) rfl))) (Or.inl (hw _ (List.mem_of_getElem? (i := 42) rfl))) (by decide) (t := .boolean) (t' := .boolean) (by decide) (by decide)))).other W39 (Or.inr (slot_ne (Or.inl (hw _ (List.mem_of_getElem? (i := 40) rfl))) (Or.inl (hw _ (List.mem_of_getElem? (i := 44) rfl))) (by decide) (t := .boolean) (t' := .boolean) (by decide) (by decide))))
      have f_47 := ((((((R3.keep K10 (ninS (Nat.ne_of_lt (Nat.lt_of_lt_of_le lt_b5 s3)) nin0)).keep K18 (ninS (Nat.ne_of_lt (Nat.lt_of_lt_of_le lt_b5 s1)) nin0)).keep K26 (ninS (Nat.ne_of_lt (Nat.lt_of_lt_of_le lt_b5 s2)) nin0)).other W30 (Or.inr (slot_ne (Or.inr (hw _ (List.mem_of_getElem? (i := 23) rfl))) (Or.inl (hw _ (List.mem_of_getElem? (i := 40) rfl))) (by decide) (t := (.object "com/example/strikeshift/strikeshift/decimal/Decimal")) (t' := .boolean) (by decide) (by decide)))).other W35 (Or.inr (slot_ne (Or.inr (hw _ (List.mem_of_getElem? (i := 23) rfl))) (Or.inl (hw _ (List.mem_of_getElem? (i := 42) rfl))) (by decide) (t := (.object "com/example/strikeshift/strikeshift/decimal/Decimal")) (t' := .boolean) (by decide) (by decide)))).other W39 (Or.inr (slot_ne (Or.inr (hw _ (List.mem_of_getElem? (i := 23) rfl))) (Or.inl (hw _ (List.mem_of_getElem? (i := 44) rfl))) (by decide) (t := (.object "com/example/strikeshift/strikeshift/decimal/Decimal")) (t' := .boolean) (by decide) (by decide))))
      have f_49 := (f_38.wr W39)
      obtain ⟨cq48, kq48, q48a, q48b, q48c⟩ := isOf hZ e39 f_49
      obtain ⟨_, _, ⟨T48, L48, k48, n48⟩, -, X48, ⟨Lc48, hQ48, l48, y48, z48⟩, st48⟩ := X39.virtualBack hx (y := (⟨"com/example/strikeshift/strikeshift/adjust/NewTerms", "settlementPrice", "()Lcom/example/strikeshift/strikeshift/decimal/Decimal;"⟩ : MethodName)) (z := (⟨"com/example/strikeshift/strikeshift/adjust/NewTerms", "settlementPrice", "()Lcom/example/strikeshift/strikeshift/decimal/Decimal;"⟩ : MethodName)) hown (mvT hZ (hw _ (List.mem_of_getElem? (i := 45) rfl))) (mvT hZ (hw _ (List.mem_of_getElem? (i := 46) rfl))) (notFace_of_selects (args := #[]) (mvT hZ (hw _ (List.mem_of_getElem? (i := 48) rfl)))) (mvT hZ (hw _ (List.mem_of_getElem? (i := 48) rfl))) (mvT hZ (hw _ (List.mem_of_getElem? (i := 47) rfl))) (by decide) (backOf (W := 0) (rm5p l Z a0 hw [] b5 xs d3 h39 n0 (Nat.le_trans Z0 K40.1) f_46 f_47 cs) hZ (hw _ (List.mem_of_getElem? (i := 49) rfl)) (hw _ (List.mem_of_getElem? (i := 4) rfl)) (by decide) (by decide)) q48a q48c (g := (mkF m 153 #[.val (.long q1), .second, .val (.int p2), .val (.int p3), .val (.long (q1 &&& (9223372036854775807 : Int64))), .second, .val (.int (p2 &&& (2147483647 : Int32))), .val (.int xs), .val (.int xu), .val (.int xk), .val (.int xz), .val (.ref b5), .unset] [(.ref b5)])) rfl (by rw [hml]; rfl) (Steps.refl _) (argsL := []) (rest := []) (lenOf pd_2 rfl) rfl (by show 2 * 0 + _ ≤ _; exact Nat.le_of_eq rfl) (hb hby at_153) (fun _ _ => ⟨rfl, e39, (by decide : 4 + 0 ≤ _), (by decide : 18 + 0 ≤ _)⟩)
      dsimp only [Pt.U, Pt.locs, Pt.cells, Pt.slots] at X48 l48 y48 z48 st48 hQ48
      subst l48 y48 z48
      obtain ⟨rfl, N48q, eq48⟩ := hQ48
      have N48 := Fr.app N39 N48q
      have e48 : T48.heap = h39 := eq48
      have f_50 := (((((U10.keep K18 (ninS (Ne.symm n13) nin0)).keep K26 (ninS (Ne.symm n23) nin0)).other W30 (Or.inl (Ne.symm (Nat.ne_of_lt (Nat.lt_of_lt_of_le lt_b5 s3))))).other W35 (Or.inl (Ne.symm (Nat.ne_of_lt (Nat.lt_of_lt_of_le lt_b5 s3))))).other W39 (Or.inl (Ne.symm (Nat.ne_of_lt (Nat.lt_of_lt_of_le lt_b5 s3)))))
      have f_51 := (((((C10.keep K18 (ninS (Ne.symm n13) nin0)).keep K26 (ninS (Ne.symm n23) nin0)).other W30 (Or.inl (Ne.symm (Nat.ne_of_lt (Nat.lt_of_lt_of_le lt_b5 s3))))).other W35 (Or.inl (Ne.symm (Nat.ne_of_lt (Nat.lt_of_lt_of_le lt_b5 s3))))).other W39 (Or.inl (Ne.symm (Nat.ne_of_lt (Nat.lt_of_lt_of_le lt_b5 s3)))))
      have f_52 := (((((X10q.keep K18 (ninS (Ne.symm n13) nin0)).keep K26 (ninS (Ne.symm n23) nin0)).other W30 (Or.inl (Ne.symm (Nat.ne_of_lt (Nat.lt_of_lt_of_le lt_b5 s3))))).other W35 (Or.inl (Ne.symm (Nat.ne_of_lt (Nat.lt_of_lt_of_le lt_b5 s3))))).other W39 (Or.inl (Ne.symm (Nat.ne_of_lt (Nat.lt_of_lt_of_le lt_b5 s3)))))
      have f_54 := (((((Eq10.keep K18).keep K26).wr W30).wr W35).wr W39)
      obtain ⟨cq53, kq53, q53a, q53b, q53c⟩ := isOf hZ e48 f_54
      obtain ⟨_, _, ⟨T53, L53, k53, n53⟩, -, X53, ⟨Lc53, hQ53, l53, y53, z53⟩, st53⟩ := X48.virtualBack hx (y := (⟨"com/example/strikeshift/strikeshift/decimal/Decimal", "isLong", "()Z"⟩ : MethodName)) (z := (⟨"com/example/strikeshift/strikeshift/decimal/Decimal", "isLong", "()Z"⟩ : MethodName)) hown (mvT hZ (hw _ (List.mem_of_getElem? (i := 51) rfl))) (mvT hZ (hw _ (List.mem_of_getElem? (i := 52) rfl))) (notFace_of_selects (args := #[]) (mvT hZ (hw _ (List.mem_of_getElem? (i := 54) rfl)))) (mvT hZ (hw _ (List.mem_of_getElem? (i := 54) rfl))) (mvT hZ (hw _ (List.mem_of_getElem? (i := 53) rfl))) (by decide) (backOf (W := 0) (rm6 l Z a0 hw [] d3 (q1 &&& (9223372036854775807 : Int64)) (p2 &&& (2147483647 : Int32)) h39 n0 (Nat.le_trans Z0 K40.1) f_50 f_51 f_52) hZ (hw _ (List.mem_of_getElem? (i := 55) rfl)) (hw _ (List.mem_of_getElem? (i := 13) rfl)) (by decide) (by decide)) q53a q53c (g := (mkF m 186 #[.val (.long q1), .second, .val (.int p2), .val (.int p3), .val (.long (q1 &&& (9223372036854775807 : Int64))), .second, .val (.int (p2 &&& (2147483647 : Int32))), .val (.int xs), .val (.int xu), .val (.int xk), .val (.int xz), .val (.ref b5), .val (.ref d3)] [(.ref d3)])) rfl (by rw [hml]; rfl) (Steps.refl _) (argsL := []) (rest := []) (lenOf pd_3 rfl) rfl (by show 2 * 0 + _ ≤ _; exact Nat.le_of_eq rfl) (hb hby at_186) (fun _ _ => ⟨rfl, e48, (by decide : 4 + 0 ≤ _), (by decide : 18 + 0 ≤ _)⟩)
      dsimp only [Pt.U, Pt.locs, Pt.cells, Pt.slots] at X53 l53 y53 z53 st53 hQ53
      subst l53 y53 z53
      obtain ⟨rfl, N53q, eq53⟩ := hQ53
      have N53 := Fr.app N48 N53q
      have e53 : T53.heap = h39 := eq53
      obtain ⟨cq55, kq55, q55a, q55b, q55c⟩ := isOf hZ e53 f_54
      obtain ⟨_, _, ⟨T55, L55, k55, n55⟩, -, X55, ⟨Lc55, hQ55, l55, y55, z55⟩, st55⟩ := X53.virtualBack hx (y := (⟨"com/example/strikeshift/strikeshift/decimal/Decimal", "unscaled", "()J"⟩ : MethodName)) (z := (⟨"com/example/strikeshift/strikeshift/decimal/Decimal", "unscaled", "()J"⟩ : MethodName)) hown (mvT hZ (hw _ (List.mem_of_getElem? (i := 56) rfl))) (mvT hZ (hw _ (List.mem_of_getElem? (i := 57) rfl))) (notFace_of_selects (args := #[]) (mvT hZ (hw _ (List.mem_of_getElem? (i := 59) rfl)))) (mvT hZ (hw _ (List.mem_of_getElem? (i := 59) rfl))) (mvT hZ (hw _ (List.mem_of_getElem? (i := 58) rfl))) (by decide) (backOf (W := 0) (rm7 l Z a0 hw [] d3 (q1 &&& (9223372036854775807 : Int64)) (p2 &&& (2147483647 : Int32)) h39 n0 (Nat.le_trans Z0 K40.1) f_50 f_51 f_52) hZ (hw _ (List.mem_of_getElem? (i := 60) rfl)) (hw _ (List.mem_of_getElem? (i := 13) rfl)) (by decide) (by decide)) q55a q55c (g := (mkF m 194 #[.val (.long q1), .second, .val (.int p2), .val (.int p3), .val (.long (q1 &&& (9223372036854775807 : Int64))), .second, .val (.int (p2 &&& (2147483647 : Int32))), .val (.int xs), .val (.int xu), .val (.int xk), .val (.int xz), .val (.ref b5), .val (.ref d3)] [(.ref d3)])) rfl (by rw [hml]; rfl) (Steps.refl _) (argsL := []) (rest := []) (lenOf pd_4 rfl) rfl (by show 2 * 0 + _ ≤ _; exact Nat.le_of_eq rfl) (hb hby at_194) (fun _ _ => ⟨rfl, e53, (by decide : 4 + 0 ≤ _), (by decide : 18 + 0 ≤ _)⟩)
      dsimp only [Pt.U, Pt.locs, Pt.cells, Pt.slots] at X55 l55 y55 z55 st55 hQ55
      subst l55 y55 z55
      obtain ⟨rfl, N55q, eq55⟩ := hQ55
      have N55 := Fr.app N53 N55q
      have e55 : T55.heap = h39 := eq55
      obtain ⟨cq56, kq56, q56a, q56b, q56c⟩ := isOf hZ e55 f_54
      obtain ⟨_, _, ⟨T56, L56, k56, n56⟩, -, X56, ⟨Lc56, hQ56, l56, y56, z56⟩, st56⟩ := X55.virtualBack hx (y := (⟨"com/example/strikeshift/strikeshift/decimal/Decimal", "scale", "()I"⟩ : MethodName)) (z := (⟨"com/example/strikeshift/strikeshift/decimal/Decimal", "scale", "()I"⟩ : MethodName)) hown (mvT hZ (hw _ (List.mem_of_getElem? (i := 61) rfl))) (mvT hZ (hw _ (List.mem_of_getElem? (i := 62) rfl))) (notFace_of_selects (args := #[]) (mvT hZ (hw _ (List.mem_of_getElem? (i := 64) rfl)))) (mvT hZ (hw _ (List.mem_of_getElem? (i := 64) rfl))) (mvT hZ (hw _ (List.mem_of_getElem? (i := 63) rfl))) (by decide) (backOf (W := 0) (rm8 l Z a0 hw [] d3 (q1 &&& (9223372036854775807 : Int64)) (p2 &&& (2147483647 : Int32)) h39 n0 (Nat.le_trans Z0 K40.1) f_50 f_51 f_52) hZ (hw _ (List.mem_of_getElem? (i := 65) rfl)) (hw _ (List.mem_of_getElem? (i := 13) rfl)) (by decide) (by decide)) q56a q56c (g := (mkF m 205 #[.val (.long q1), .second, .val (.int p2), .val (.int p3), .val (.long (q1 &&& (9223372036854775807 : Int64))), .second, .val (.int (p2 &&& (2147483647 : Int32))), .val (.int xs), .val (.int xu), .val (.int xk), .val (.int xz), .val (.ref b5), .val (.ref d3)] [(.ref d3)])) rfl (by rw [hml]; rfl) (Steps.refl _) (argsL := []) (rest := []) (lenOf pd_5 rfl) rfl (by show 2 * 0 + _ ≤ _; exact Nat.le_of_eq rfl) (hb hby at_205) (fun _ _ => ⟨rfl, e55, (by decide : 4 + 0 ≤ _), (by decide : 18 + 0 ≤ _)⟩)
      dsimp only [Pt.U, Pt.locs, Pt.cells, Pt.slots] at X56 l56 y56 z56 st56 hQ56
      subst l56 y56 z56
      obtain ⟨rfl, N56q, eq56⟩ := hQ56
      have N56 := Fr.app N55 N56q
      have e56 : T56.heap = h39 := eq56
      obtain ⟨fs, hr, hrun, hended, hW, hsame⟩ := X56.leave (v := some (.int (1 : Int32))) (fun h => by rw [Bd.returns] at h; cases h)
      refine ⟨_, _, pre42 _ ?_, hrun, hended, _, _, rfl, ?_, ⟨_, rfl⟩, hW, hsame.mono (by decide) (by decide)⟩
      · show Steps p.tables e below (T39.setTop (mkF m 153 #[.val (.long q1), .second, .val (.int p2), .val (.int p3), .val (.long (q1 &&& (9223372036854775807 : Int64))), .second, .val (.int (p2 &&& (2147483647 : Int32))), .val (.int xs), .val (.int xu), .val (.int xk), .val (.int xz), .val (.ref b5), .unset] [(.ref b5)])) _
        refine st48.trans ?_
        show Steps p.tables e below (T48.setTop (mkF m 156 #[.val (.long q1), .second, .val (.int p2), .val (.int p3), .val (.long (q1 &&& (9223372036854775807 : Int64))), .second, .val (.int (p2 &&& (2147483647 : Int32))), .val (.int xs), .val (.int xu), .val (.int xk), .val (.int xz), .val (.ref b5), .unset] [(.ref d3)])) _
        refine XS.astore X48.here hx rfl (hb hby at_156) rfl rfl (l' := #[.val (.long q1), .second, .val (.int p2), .val (.int p3), .val (.long (q1 &&& (9223372036854775807 : Int64))), .second, .val (.int (p2 &&& (2147483647 : Int32))), .val (.int xs), .val (.int xu), .val (.int xk), .val (.int xz), .val (.ref b5), .val (.ref d3)]) rfl ?_
        show Steps p.tables e below (T48.setTop (mkF m 158 #[.val (.long q1), .second, .val (.int p2), .val (.int p3), .val (.long (q1 &&& (9223372036854775807 : Int64))), .second, .val (.int (p2 &&& (2147483647 : Int32))), .val (.int xs), .val (.int xu), .val (.int xk), .val (.int xz), .val (.ref b5), .val (.ref d3)] [])) _
        refine XS.iload X48.here hx rfl (hb hby at_158) rfl ?_
        show Steps p.tables e below (T48.setTop (mkF m 160 #[.val (.long q1), .second, .val (.int p2), .val (.int p3), .val (.long (q1 &&& (9223372036854775807 : Int64))), .second, .val (.int (p2 &&& (2147483647 : Int32))), .val (.int xs), .val (.int xu), .val (.int xk), .val (.int xz), .val (.ref b5), .val (.ref d3)] [(.int xs)])) _
        refine XS.ifNo X48.here hx rfl (hb hby at_160) rfl ((if0 _ _).trans (feq cs).1) ?_
        show Steps p.tables e below (T48.setTop (mkF m 163 #[.val (.long q1), .second, .val (.int p2), .val (.int p3), .val (.long (q1 &&& (9223372036854775807 : Int64))), .second, .val (.int (p2 &&& (2147483647 : Int32))), .val (.int xs), .val (.int xu), .val (.int xk), .val (.int xz), .val (.ref b5), .val (.ref d3)] [])) _
        refine XS.iload X48.here hx rfl (hb hby at_163) rfl ?_
        show Steps p.tables e below (T48.setTop (mkF m 165 #[.val (.long q1), .second, .val (.int p2), .val (.int p3), .val (.long (q1 &&& (9223372036854775807 : Int64))), .second, .val (.int (p2 &&& (2147483647 : Int32))), .val (.int xs), .val (.int xu), .val (.int xk), .val (.int xz), .val (.ref b5), .val (.ref d3)] [(.int xu)])) _
        refine XS.ifYes X48.here hx rfl (pc0 := 165) (pc' := 179) rfl (hb hby at_165) rfl ((if0 _ _).trans (teq cu).1) (by decide) (by decide) ?_
        show Steps p.tables e below (T48.setTop (mkF m 179 #[.val (.long q1), .second, .val (.int p2), .val (.int p3), .val (.long (q1 &&& (9223372036854775807 : Int64))), .second, .val (.int (p2 &&& (2147483647 : Int32))), .val (.int xs), .val (.int xu), .val (.int xk), .val (.int xz), .val (.ref b5), .val (.ref d3)] [])) _
        refine XS.aload X48.here hx rfl (hb hby at_179) rfl rfl ?_
        show Steps p.tables e below (T48.setTop (mkF m 181 #[.val (.long q1), .second, .val (.int p2), .val (.int p3), .val (.long (q1 &&& (9223372036854775807 : Int64))), .second, .val (.int (p2 &&& (2147483647 : Int32))), .val (.int xs), .val (.int xu), .val (.int xk), .val (.int xz), .val (.ref b5), .val (.ref d3)] [(.ref d3)])) _
        refine XS.ifnullNo X48.here hx rfl (hb hby at_181) rfl ?_
        show Steps p.tables e below (T48.setTop (mkF m 184 #[.val (.long q1), .second, .val (.int p2), .val (.int p3), .val (.long (q1 &&& (9223372036854775807 : Int64))), .second, .val (.int (p2 &&& (2147483647 : Int32))), .val (.int xs), .val (.int xu), .val (.int xk), .val (.int xz), .val (.ref b5), .val (.ref d3)] [])) _
        refine XS.aload X48.here hx rfl (hb hby at_184) rfl rfl ?_
        show Steps p.tables e below (T48.setTop (mkF m 186 #[.val (.long q1), .second, .val (.int p2), .val (.int p3), .val (.long (q1 &&& (9223372036854775807 : Int64))), .second, .val (.int (p2 &&& (2147483647 : Int32))), .val (.int xs), .val (.int xu), .val (.int xk), .val (.int xz), .val (.ref b5), .val (.ref d3)] [(.ref d3)])) _
        refine st53.trans ?_
        show Steps p.tables e below (T53.setTop (mkF m 189 #[.val (.long q1), .second, .val (.int p2), .val (.int p3), .val (.long (q1 &&& (9223372036854775807 : Int64))), .second, .val (.int (p2 &&& (2147483647 : Int32))), .val (.int xs), .val (.int xu), .val (.int xk), .val (.int xz), .val (.ref b5), .val (.ref d3)] [(.int (1 : Int32))])) _
        refine XS.ifNo X53.here hx rfl (hb hby at_189) rfl ((if0 _ _).trans (feq (by decide)).1) ?_
        show Steps p.tables e below (T53.setTop (mkF m 192 #[.val (.long q1), .second, .val (.int p2), .val (.int p3), .val (.long (q1 &&& (9223372036854775807 : Int64))), .second, .val (.int (p2 &&& (2147483647 : Int32))), .val (.int xs), .val (.int xu), .val (.int xk), .val (.int xz), .val (.ref b5), .val (.ref d3)] [])) _
        refine XS.aload X53.here hx rfl (hb hby at_192) rfl rfl ?_
        show Steps p.tables e below (T53.setTop (mkF m 194 #[.val (.long q1), .second, .val (.int p2), .val (.int p3), .val (.long (q1 &&& (9223372036854775807 : Int64))), .second, .val (.int (p2 &&& (2147483647 : Int32))), .val (.int xs), .val (.int xu), .val (.int xk), .val (.int xz), .val (.ref b5), .val (.ref d3)] [(.ref d3)])) _
        refine st55.trans ?_
        show Steps p.tables e below (T55.setTop (mkF m 197 #[.val (.long q1), .second, .val (.int p2), .val (.int p3), .val (.long (q1 &&& (9223372036854775807 : Int64))), .second, .val (.int (p2 &&& (2147483647 : Int32))), .val (.int xs), .val (.int xu), .val (.int xk), .val (.int xz), .val (.ref b5), .val (.ref d3)] [(.long (q1 &&& (9223372036854775807 : Int64)))])) _
        refine XS.lload X55.here hx rfl (hb hby at_197) rfl ?_
        show Steps p.tables e below (T55.setTop (mkF m 199 #[.val (.long q1), .second, .val (.int p2), .val (.int p3), .val (.long (q1 &&& (9223372036854775807 : Int64))), .second, .val (.int (p2 &&& (2147483647 : Int32))), .val (.int xs), .val (.int xu), .val (.int xk), .val (.int xz), .val (.ref b5), .val (.ref d3)] [(.long (q1 &&& (9223372036854775807 : Int64))), (.long (q1 &&& (9223372036854775807 : Int64)))])) _
        refine XS.lcmp X55.here hx rfl (hb hby at_199) rfl ?_
        show Steps p.tables e below (T55.setTop (mkF m 200 #[.val (.long q1), .second, .val (.int p2), .val (.int p3), .val (.long (q1 &&& (9223372036854775807 : Int64))), .second, .val (.int (p2 &&& (2147483647 : Int32))), .val (.int xs), .val (.int xu), .val (.int xk), .val (.int xz), .val (.ref b5), .val (.ref d3)] [(.int (lcmpW (q1 &&& (9223372036854775807 : Int64)) (q1 &&& (9223372036854775807 : Int64))))])) _
        refine XS.ifNo X55.here hx rfl (hb hby at_200) rfl ((if0 _ _).trans (teq ((lw_eq _ _).mpr rfl)).2) ?_
        show Steps p.tables e below (T55.setTop (mkF m 203 #[.val (.long q1), .second, .val (.int p2), .val (.int p3), .val (.long (q1 &&& (9223372036854775807 : Int64))), .second, .val (.int (p2 &&& (2147483647 : Int32))), .val (.int xs), .val (.int xu), .val (.int xk), .val (.int xz), .val (.ref b5), .val (.ref d3)] [])) _
        refine XS.aload X55.here hx rfl (hb hby at_203) rfl rfl ?_
        show Steps p.tables e below (T55.setTop (mkF m 205 #[.val (.long q1), .second, .val (.int p2), .val (.int p3), .val (.long (q1 &&& (9223372036854775807 : Int64))), .second, .val (.int (p2 &&& (2147483647 : Int32))), .val (.int xs), .val (.int xu), .val (.int xk), .val (.int xz), .val (.ref b5), .val (.ref d3)] [(.ref d3)])) _
        refine st56.trans ?_
        show Steps p.tables e below (T56.setTop (mkF m 208 #[.val (.long q1), .second, .val (.int p2), .val (.int p3), .val (.long (q1 &&& (9223372036854775807 : Int64))), .second, .val (.int (p2 &&& (2147483647 : Int32))), .val (.int xs), .val (.int xu), .val (.int xk), .val (.int xz), .val (.ref b5), .val (.ref d3)] [(.int (p2 &&& (2147483647 : Int32)))])) _
        refine XS.iload X56.here hx rfl (hb hby at_208) rfl ?_
        show Steps p.tables e below (T56.setTop (mkF m 210 #[.val (.long q1), .second, .val (.int p2), .val (.int p3), .val (.long (q1 &&& (9223372036854775807 : Int64))), .second, .val (.int (p2 &&& (2147483647 : Int32))), .val (.int xs), .val (.int xu), .val (.int xk), .val (.int xz), .val (.ref b5), .val (.ref d3)] [(.int (p2 &&& (2147483647 : Int32))), (.int (p2 &&& (2147483647 : Int32)))])) _
        refine XS.icmpNo X56.here hx rfl (hb hby at_210) rfl (teq rfl).2 ?_
        show Steps p.tables e below (T56.setTop (mkF m 213 #[.val (.long q1), .second, .val (.int p2), .val (.int p3), .val (.long (q1 &&& (9223372036854775807 : Int64))), .second, .val (.int (p2 &&& (2147483647 : Int32))), .val (.int xs), .val (.int xu), .val (.int xk), .val (.int xz), .val (.ref b5), .val (.ref d3)] [])) _
        refine XS.iconst X56.here hx rfl (hb hby at_213) ?_
        show Steps p.tables e below (T56.setTop (mkF m 214 #[.val (.long q1), .second, .val (.int p2), .val (.int p3), .val (.long (q1 &&& (9223372036854775807 : Int64))), .second, .val (.int (p2 &&& (2147483647 : Int32))), .val (.int xs), .val (.int xu), .val (.int xk), .val (.int xz), .val (.ref b5), .val (.ref d3)] [(.int (1 : Int32))])) _
        refine XS.goto X56.here hx rfl (pc0 := 214) (pc' := 218) rfl (hb hby at_214) (by decide) (by decide) ?_
        show Steps p.tables e below (T56.setTop (mkF m 218 #[.val (.long q1), .second, .val (.int p2), .val (.int p3), .val (.long (q1 &&& (9223372036854775807 : Int64))), .second, .val (.int (p2 &&& (2147483647 : Int32))), .val (.int xs), .val (.int xu), .val (.int xk), .val (.int xz), .val (.ref b5), .val (.ref d3)] [(.int (1 : Int32))])) _
        exact retN X56 hx (t := .boolean) Bd.returns (by simp) (hb hby at_218) hr
      · show Q_rm0 Z q1 p2 p3 wA h0 n0 _ T56.heap _
        rw [e56]
        exact ⟨rfl, N56, trivial⟩
  · have f_57 := (f_38.wr W39)
    have f_58 := ((((((((O0.ext E5).keep K7 (allS gn_b5 all0)).keep K10 (allS gn_d3 all0)).keep K18 (allS gn_d1 all0)).keep K26 (allS gn_d2 all0)).wr W30 gn_b5).wr W35 gn_b5).wr W39 gn_b5)
    have f_59 := (Fw35.other W39 (Or.inr (slot_ne (Or.inl (hw _ (List.mem_of_getElem? (i := 42) rfl))) (Or.inl (hw _ (List.mem_of_getElem? (i := 44) rfl))) (by decide) (t := .boolean) (t' := .boolean) (by decide) (by decide))))
    have f_60 := ((((((Z3q7.keep K10 (ninS (Nat.ne_of_lt (Nat.lt_of_lt_of_le lt_b5 s3)) nin0)).keep K18 (ninS (Nat.ne_of_lt (Nat.lt_of_lt_of_le lt_b5 s1)) nin0)).keep K26 (ninS (Nat.ne_of_lt (Nat.lt_of_lt_of_le lt_b5 s2)) nin0)).other W30 (Or.inr (slot_ne (Or.inl (hw _ (List.mem_of_getElem? (i := 73) rfl))) (Or.inl (hw _ (List.mem_of_getElem? (i := 40) rfl))) (by decide) (t := .boolean) (t' := .boolean) (by decide) (by decide)))).other W35 (Or.inr (slot_ne (Or.inl (hw _ (List.mem_of_getElem? (i := 73) rfl))) (Or.inl (hw _ (List.mem_of_getElem? (i := 42) rfl))) (by decide) (t := .boolean) (t' := .boolean) (by decide) (by decide)))).other W39 (Or.inr (slot_ne (Or.inl (hw _ (List.mem_of_getElem? (i := 73) rfl))) (Or.inl (hw _ (List.mem_of_getElem? (i := 44) rfl))) (by decide) (t := .boolean) (t' := .boolean) (by decide) (by decide))))
    have f_61 := ((Fw30.other W35 (Or.inr (slot_ne (Or.inl (hw _ (List.mem_of_getElem? (i := 40) rfl))) (Or.inl (hw _ (List.mem_of_getElem? (i := 42) rfl))) (by decide) (t := .boolean) (t' := .boolean) (by decide) (by decide)))).other W39 (Or.inr (slot_ne (Or.inl (hw _ (List.mem_of_getElem? (i := 40) rfl))) (Or.inl (hw _ (List.mem_of_getElem? (i := 44) rfl))) (by decide) (t := .boolean) (t' := .boolean) (by decide) (by decide))))
    have f_62 := ((((((Aq7.keep K10 (ninS (Nat.ne_of_lt (Nat.lt_of_lt_of_le lt_b5 s3)) nin0)).keep K18 (ninS (Nat.ne_of_lt (Nat.lt_of_lt_of_le lt_b5 s1)) nin0)).keep K26 (ninS (Nat.ne_of_lt (Nat.lt_of_lt_of_le lt_b5 s2)) nin0)).other W30 (Or.inr (slot_ne (Or.inl (hw _ (List.mem_of_getElem? (i := 79) rfl))) (Or.inl (hw _ (List.mem_of_getElem? (i := 40) rfl))) (by decide) (t := (.object "com/example/strikeshift/strikeshift/adjust/Action")) (t' := .boolean) (by decide) (by decide)))).other W35 (Or.inr (slot_ne (Or.inl (hw _ (List.mem_of_getElem? (i := 79) rfl))) (Or.inl (hw _ (List.mem_of_getElem? (i := 42) rfl))) (by decide) (t := (.object "com/example/strikeshift/strikeshift/adjust/Action")) (t' := .boolean) (by decide) (by decide)))).other W39 (Or.inr (slot_ne (Or.inl (hw _ (List.mem_of_getElem? (i := 79) rfl))) (Or.inl (hw _ (List.mem_of_getElem? (i := 44) rfl))) (by decide) (t := (.object "com/example/strikeshift/strikeshift/adjust/Action")) (t' := .boolean) (by decide) (by decide))))
    obtain ⟨cq63, kq63, q63a, q63b, q63c⟩ := isOf hZ e39 f_57
    obtain ⟨_, _, ⟨T63, L63, k63, n63⟩, -, X63, ⟨Lc63, hQ63, l63, y63, z63⟩, st63⟩ := X39.virtualBack hx (y := (⟨"com/example/strikeshift/strikeshift/adjust/NewTerms", "setUnadjusted", "()V"⟩ : MethodName)) (z := (⟨"com/example/strikeshift/strikeshift/adjust/NewTerms", "setUnadjusted", "()V"⟩ : MethodName)) hown (mvT hZ (hw _ (List.mem_of_getElem? (i := 66) rfl))) (mvT hZ (hw _ (List.mem_of_getElem? (i := 67) rfl))) (notFace_of_selects (args := #[]) (mvT hZ (hw _ (List.mem_of_getElem? (i := 69) rfl)))) (mvT hZ (hw _ (List.mem_of_getElem? (i := 69) rfl))) (mvT hZ (hw _ (List.mem_of_getElem? (i := 68) rfl))) (by decide) (backOf (W := 0) (rm9 l Z a0 hw [] b5 wA xk (0 : Int32) xz xs .null h39 n0 (Nat.le_trans Z0 K40.1) f_57 gn_b5 (SA.ext f_58.2) f_59 f_60 Fw39 f_61 f_62) hZ (hw _ (List.mem_of_getElem? (i := 70) rfl)) (hw _ (List.mem_of_getElem? (i := 4) rfl)) (by decide) (by decide)) q63a q63c (g := (mkF m 148 #[.val (.long q1), .second, .val (.int p2), .val (.int p3), .val (.long (q1 &&& (9223372036854775807 : Int64))), .second, .val (.int (p2 &&& (2147483647 : Int32))), .val (.int xs), .val (.int xu), .val (.int xk), .val (.int xz), .val (.ref b5), .unset] [(.ref b5)])) rfl (by rw [hml]; rfl) (Steps.refl _) (argsL := []) (rest := []) (lenOf pd_0 rfl) rfl (by show 2 * 0 + _ ≤ _; exact Nat.le_of_eq rfl) (hb hby at_148) (fun _ _ => ⟨rfl, e39, (by decide : 4 + 0 ≤ _), (by decide : 18 + 0 ≤ _)⟩)
    dsimp only [Pt.U, Pt.locs, Pt.cells, Pt.slots] at X63 l63 y63 z63 st63 hQ63
    subst l63 y63 z63
    obtain ⟨rfl, N63q, K63, Eq63, Zq63⟩ := hQ63
    have N63 := Fr.app N39 N63q
    have K64 : Keep h0 T63.heap [] := K40.trans K63 (allS (Or.inr sz_b5) all0)
    obtain ⟨cq65, kq65, q65a, q65b, q65c⟩ := isOf hZ rfl Eq63
    obtain ⟨_, _, ⟨T65, L65, k65, n65⟩, -, X65, ⟨Lc65, hQ65, l65, y65, z65⟩, st65⟩ := X63.virtualBack hx (y := (⟨"com/example/strikeshift/strikeshift/adjust/NewTerms", "settlementPrice", "()Lcom/example/strikeshift/strikeshift/decimal/Decimal;"⟩ : MethodName)) (z := (⟨"com/example/strikeshift/strikeshift/adjust/NewTerms", "settlementPrice", "()Lcom/example/strikeshift/strikeshift/decimal/Decimal;"⟩ : MethodName)) hown (mvT hZ (hw _ (List.mem_of_getElem? (i := 45) rfl))) (mvT hZ (hw _ (List.mem_of_getElem? (i := 46) rfl))) (notFace_of_selects (args := #[]) (mvT hZ (hw _ (List.mem_of_getElem? (i := 48) rfl)))) (mvT hZ (hw _ (List.mem_of_getElem? (i := 48) rfl))) (mvT hZ (hw _ (List.mem_of_getElem? (i := 47) rfl))) (by decide) (backOf (W := 0) (rm5z l Z a0 hw [] b5 T63.heap n0 (Nat.le_trans Z0 K64.1) Zq63) hZ (hw _ (List.mem_of_getElem? (i := 49) rfl)) (hw _ (List.mem_of_getElem? (i := 4) rfl)) (by decide) (by decide)) q65a q65c (g := (mkF m 153 #[.val (.long q1), .second, .val (.int p2), .val (.int p3), .val (.long (q1 &&& (9223372036854775807 : Int64))), .second, .val (.int (p2 &&& (2147483647 : Int32))), .val (.int xs), .val (.int xu), .val (.int xk), .val (.int xz), .val (.ref b5), .unset] [(.ref b5)])) rfl (by rw [hml]; rfl) (Steps.refl _) (argsL := []) (rest := []) (lenOf pd_2 rfl) rfl (by show 2 * 0 + _ ≤ _; exact Nat.le_of_eq rfl) (hb hby at_153) (fun _ _ => ⟨rfl, rfl, (by decide : 4 + 0 ≤ _), (by decide : 18 + 0 ≤ _)⟩)
    dsimp only [Pt.U, Pt.locs, Pt.cells, Pt.slots] at X65 l65 y65 z65 st65 hQ65
    subst l65 y65 z65
    obtain ⟨rfl, N65q, eq65⟩ := hQ65
    have N65 := Fr.app N63 N65q
    have e65 : T65.heap = T63.heap := eq65
    have pre66 : ∀ t, Steps p.tables e below (T65.setTop (mkF m 160 #[.val (.long q1), .second, .val (.int p2), .val (.int p3), .val (.long (q1 &&& (9223372036854775807 : Int64))), .second, .val (.int (p2 &&& (2147483647 : Int32))), .val (.int xs), .val (.int xu), .val (.int xk), .val (.int xz), .val (.ref b5), .val .null] [(.int xs)])) t → Steps p.tables e below S0 t := by
      intro t k
      refine pre41 t ?_
      show Steps p.tables e below (T39.setTop (mkF m 143 #[.val (.long q1), .second, .val (.int p2), .val (.int p3), .val (.long (q1 &&& (9223372036854775807 : Int64))), .second, .val (.int (p2 &&& (2147483647 : Int32))), .val (.int xs), .val (.int xu), .val (.int xk), .val (.int xz), .val (.ref b5), .unset] [(.int xu)])) _
      refine XS.ifNo X39.here hx rfl (hb hby at_143) rfl ((if0 _ _).trans (feq cu).1) ?_
      show Steps p.tables e below (T39.setTop (mkF m 146 #[.val (.long q1), .second, .val (.int p2), .val (.int p3), .val (.long (q1 &&& (9223372036854775807 : Int64))), .second, .val (.int (p2 &&& (2147483647 : Int32))), .val (.int xs), .val (.int xu), .val (.int xk), .val (.int xz), .val (.ref b5), .unset] [])) _
      refine XS.aload X39.here hx rfl (hb hby at_146) rfl rfl ?_
      show Steps p.tables e below (T39.setTop (mkF m 148 #[.val (.long q1), .second, .val (.int p2), .val (.int p3), .val (.long (q1 &&& (9223372036854775807 : Int64))), .second, .val (.int (p2 &&& (2147483647 : Int32))), .val (.int xs), .val (.int xu), .val (.int xk), .val (.int xz), .val (.ref b5), .unset] [(.ref b5)])) _
      refine st63.trans ?_
      show Steps p.tables e below (T63.setTop (mkF m 151 #[.val (.long q1), .second, .val (.int p2), .val (.int p3), .val (.long (q1 &&& (9223372036854775807 : Int64))), .second, .val (.int (p2 &&& (2147483647 : Int32))), .val (.int xs), .val (.int xu), .val (.int xk), .val (.int xz), .val (.ref b5), .unset] [])) _
      refine XS.aload X63.here hx rfl (hb hby at_151) rfl rfl ?_
      show Steps p.tables e below (T63.setTop (mkF m 153 #[.val (.long q1), .second, .val (.int p2), .val (.int p3), .val (.long (q1 &&& (9223372036854775807 : Int64))), .second, .val (.int (p2 &&& (2147483647 : Int32))), .val (.int xs), .val (.int xu), .val (.int xk), .val (.int xz), .val (.ref b5), .unset] [(.ref b5)])) _
      refine st65.trans ?_
      show Steps p.tables e below (T65.setTop (mkF m 156 #[.val (.long q1), .second, .val (.int p2), .val (.int p3), .val (.long (q1 &&& (9223372036854775807 : Int64))), .second, .val (.int (p2 &&& (2147483647 : Int32))), .val (.int xs), .val (.int xu), .val (.int xk), .val (.int xz), .val (.ref b5), .unset] [.null])) _
      refine XS.astore X65.here hx rfl (hb hby at_156) rfl rfl (l' := #[.val (.long q1), .second, .val (.int p2), .val (.int p3), .val (.long (q1 &&& (9223372036854775807 : Int64))), .second, .val (.int (p2 &&& (2147483647 : Int32))), .val (.int xs), .val (.int xu), .val (.int xk), .val (.int xz), .val (.ref b5), .val .null]) rfl ?_
      show Steps p.tables e below (T65.setTop (mkF m 158 #[.val (.long q1), .second, .val (.int p2), .val (.int p3), .val (.long (q1 &&& (9223372036854775807 : Int64))), .second, .val (.int (p2 &&& (2147483647 : Int32))), .val (.int xs), .val (.int xu), .val (.int xk), .val (.int xz), .val (.ref b5), .val .null] [])) _
      refine XS.iload X65.here hx rfl (hb hby at_158) rfl ?_
      exact k
    by_cases cs : xs = (0 : Int32)
    · obtain ⟨fs, hr, hrun, hended, hW, hsame⟩ := X65.leave (v := some (.int (1 : Int32))) (fun h => by rw [Bd.returns] at h; cases h)
      refine ⟨_, _, pre66 _ ?_, hrun, hended, _, _, rfl, ?_, ⟨_, rfl⟩, hW, hsame.mono (by decide) (by decide)⟩
      · show Steps p.tables e below (T65.setTop (mkF m 160 #[.val (.long q1), .second, .val (.int p2), .val (.int p3), .val (.long (q1 &&& (9223372036854775807 : Int64))), .second, .val (.int (p2 &&& (2147483647 : Int32))), .val (.int xs), .val (.int xu), .val (.int xk), .val (.int xz), .val (.ref b5), .val .null] [(.int xs)])) _
        refine XS.ifYes X65.here hx rfl (pc0 := 160) (pc' := 168) rfl (hb hby at_160) rfl ((if0 _ _).trans (teq cs).1) (by decide) (by decide) ?_
        show Steps p.tables e below (T65.setTop (mkF m 168 #[.val (.long q1), .second, .val (.int p2), .val (.int p3), .val (.long (q1 &&& (9223372036854775807 : Int64))), .second, .val (.int (p2 &&& (2147483647 : Int32))), .val (.int xs), .val (.int xu), .val (.int xk), .val (.int xz), .val (.ref b5), .val .null] [])) _
        refine XS.aload X65.here hx rfl (hb hby at_168) rfl rfl ?_
        show Steps p.tables e below (T65.setTop (mkF m 170 #[.val (.long q1), .second, .val (.int p2), .val (.int p3), .val (.long (q1 &&& (9223372036854775807 : Int64))), .second, .val (.int (p2 &&& (2147483647 : Int32))), .val (.int xs), .val (.int xu), .val (.int xk), .val (.int xz), .val (.ref b5), .val .null] [.null])) _
        refine XS.ifnonnullNo X65.here hx rfl (hb hby at_170) rfl ?_
        show Steps p.tables e below (T65.setTop (mkF m 173 #[.val (.long q1), .second, .val (.int p2), .val (.int p3), .val (.long (q1 &&& (9223372036854775807 : Int64))), .second, .val (.int (p2 &&& (2147483647 : Int32))), .val (.int xs), .val (.int xu), .val (.int xk), .val (.int xz), .val (.ref b5), .val .null] [])) _
        refine XS.iconst X65.here hx rfl (hb hby at_173) ?_
        show Steps p.tables e below (T65.setTop (mkF m 174 #[.val (.long q1), .second, .val (.int p2), .val (.int p3), .val (.long (q1 &&& (9223372036854775807 : Int64))), .second, .val (.int (p2 &&& (2147483647 : Int32))), .val (.int xs), .val (.int xu), .val (.int xk), .val (.int xz), .val (.ref b5), .val .null] [(.int (1 : Int32))])) _
        refine XS.goto X65.here hx rfl (pc0 := 174) (pc' := 178) rfl (hb hby at_174) (by decide) (by decide) ?_
        show Steps p.tables e below (T65.setTop (mkF m 178 #[.val (.long q1), .second, .val (.int p2), .val (.int p3), .val (.long (q1 &&& (9223372036854775807 : Int64))), .second, .val (.int (p2 &&& (2147483647 : Int32))), .val (.int xs), .val (.int xu), .val (.int xk), .val (.int xz), .val (.ref b5), .val .null] [(.int (1 : Int32))])) _
        exact retN X65 hx (t := .boolean) Bd.returns (by simp) (hb hby at_178) hr
      · show Q_rm0 Z q1 p2 p3 wA h0 n0 _ T65.heap _
        rw [e65]
        exact ⟨rfl, N65, trivial⟩
    · obtain ⟨fs, hr, hrun, hended, hW, hsame⟩ := X65.leave (v := some (.int (1 : Int32))) (fun h => by rw [Bd.returns] at h; cases h)
      refine ⟨_, _, pre66 _ ?_, hrun, hended, _, _, rfl, ?_, ⟨_, rfl⟩, hW, hsame.mono (by decide) (by decide)⟩
      · show Steps p.tables e below (T65.setTop (mkF m 160 #[.val (.long q1), .second, .val (.int p2), .val (.int p3), .val (.long (q1 &&& (9223372036854775807 : Int64))), .second, .val (.int (p2 &&& (2147483647 : Int32))), .val (.int xs), .val (.int xu), .val (.int xk), .val (.int xz), .val (.ref b5), .val .null] [(.int xs)])) _
        refine XS.ifNo X65.here hx rfl (hb hby at_160) rfl ((if0 _ _).trans (feq cs).1) ?_
        show Steps p.tables e below (T65.setTop (mkF m 163 #[.val (.long q1), .second, .val (.int p2), .val (.int p3), .val (.long (q1 &&& (9223372036854775807 : Int64))), .second, .val (.int (p2 &&& (2147483647 : Int32))), .val (.int xs), .val (.int xu), .val (.int xk), .val (.int xz), .val (.ref b5), .val .null] [])) _
        refine XS.iload X65.here hx rfl (hb hby at_163) rfl ?_
        show Steps p.tables e below (T65.setTop (mkF m 165 #[.val (.long q1), .second, .val (.int p2), .val (.int p3), .val (.long (q1 &&& (9223372036854775807 : Int64))), .second, .val (.int (p2 &&& (2147483647 : Int32))), .val (.int xs), .val (.int xu), .val (.int xk), .val (.int xz), .val (.ref b5), .val .null] [(.int xu)])) _
        refine XS.ifNo X65.here hx rfl (hb hby at_165) rfl ((if0 _ _).trans (feq cu).1) ?_
        show Steps p.tables e below (T65.setTop (mkF m 168 #[.val (.long q1), .second, .val (.int p2), .val (.int p3), .val (.long (q1 &&& (9223372036854775807 : Int64))), .second, .val (.int (p2 &&& (2147483647 : Int32))), .val (.int xs), .val (.int xu), .val (.int xk), .val (.int xz), .val (.ref b5), .val .null] [])) _
        refine XS.aload X65.here hx rfl (hb hby at_168) rfl rfl ?_
        show Steps p.tables e below (T65.setTop (mkF m 170 #[.val (.long q1), .second, .val (.int p2), .val (.int p3), .val (.long (q1 &&& (9223372036854775807 : Int64))), .second, .val (.int (p2 &&& (2147483647 : Int32))), .val (.int xs), .val (.int xu), .val (.int xk), .val (.int xz), .val (.ref b5), .val .null] [.null])) _
        refine XS.ifnonnullNo X65.here hx rfl (hb hby at_170) rfl ?_
        show Steps p.tables e below (T65.setTop (mkF m 173 #[.val (.long q1), .second, .val (.int p2), .val (.int p3), .val (.long (q1 &&& (9223372036854775807 : Int64))), .second, .val (.int (p2 &&& (2147483647 : Int32))), .val (.int xs), .val (.int xu), .val (.int xk), .val (.int xz), .val (.ref b5), .val .null] [])) _
        refine XS.iconst X65.here hx rfl (hb hby at_173) ?_
        show Steps p.tables e below (T65.setTop (mkF m 174 #[.val (.long q1), .second, .val (.int p2), .val (.int p3), .val (.long (q1 &&& (9223372036854775807 : Int64))), .second, .val (.int (p2 &&& (2147483647 : Int32))), .val (.int xs), .val (.int xu), .val (.int xk), .val (.int xz), .val (.ref b5), .val .null] [(.int (1 : Int32))])) _
        refine XS.goto X65.here hx rfl (pc0 := 174) (pc' := 178) rfl (hb hby at_174) (by decide) (by decide) ?_
        show Steps p.tables e below (T65.setTop (mkF m 178 #[.val (.long q1), .second, .val (.int p2), .val (.int p3), .val (.long (q1 &&& (9223372036854775807 : Int64))), .second, .val (.int (p2 &&& (2147483647 : Int32))), .val (.int xs), .val (.int xu), .val (.int xk), .val (.int xz), .val (.ref b5), .val .null] [(.int (1 : Int32))])) _
        exact retN X65 hx (t := .boolean) Bd.returns (by simp) (hb hby at_178) hr
      · show Q_rm0 Z q1 p2 p3 wA h0 n0 _ T65.heap _
        rw [e65]
        exact ⟨rfl, N65, trivial⟩
set_option maxRecDepth 65536 in
set_option maxHeartbeats 40000000 in
theorem comes_1 {Post : Tables → Env → Array Value → State → Outcome → State → Prop} (hpost : ∀ tb e args s v u, (limb_1_1.after args s (.returned v) u = true ∧ limb_1_2.after args s (.returned v) u = true ∧ True) → FrameEnd s (.returned v) u (Jvm.fieldLocs frame_1_writes args s ++ Jvm.arrayLocs frame_1_arrays args s ++ Jvm.staticLocs frame_1_statics s) 16 128 → Post tb e args s (.returned v) u) :
    ArmFor flags0 classFile x code maxLocals ret World_1 tables_1 room_1 Calls_1 rest_1 Pre_1 Post := by
  intro l hfl _ _ p e ha hc hk s m args below hf hA hF happ hP
  obtain ⟨hcalls, hrest, hpre⟩ := hP
  obtain ⟨-, -, -, hnamed, -, -, -, hat⟩ := (Spec.applies_iff hf).mp happ
  obtain ⟨hg, hn⟩ := and_e (Cond.before_iff.mp (show (Jvm.Cond.and given_1 narrow_1).before args s = true from hpre))
  obtain ⟨g0, hg⟩ := and_e hg
  obtain ⟨g1, hg⟩ := and_e hg
  obtain ⟨g2, g3⟩ := and_e hg
  obtain ⟨w0, w1, w2, rfl⟩ : ∃ w0 w1 w2 : Value, args = #[w0, w1, w2] := by
    have hs : args.size = 3 := by simpa [Cond.value, given_1] using g0
    obtain ⟨L⟩ := args
    match L, hs with
    | [w0, w1, w2], _ => exact ⟨w0, w1, w2, rfl⟩
  have hw := fun d (hd : d ∈ tables_1) => atoms_spec (ws := Jvm.Cond.code x code maxLocals ret :: tables_1) hat d (List.mem_cons_of_mem _ hd)
  obtain ⟨i0, ei0⟩ := isL_v g1
  obtain rfl : w0 = (.long i0) := Option.some.inj ei0
  obtain ⟨i1, ei1⟩ := is_v g2
  obtain rfl : w1 = (.int i1) := Option.some.inj ei1
  obtain ⟨i2, ei2⟩ := is_v g3
  obtain rfl : w2 = (.int i2) := Option.some.inj ei2
  have hn' : (Jvm.Cond.exactly (Jvm.Term.static "com/example/strikeshift/strikeshift/adjust/Action" "UNADJUSTED" "Lcom/example/strikeshift/strikeshift/adjust/Action;") "com/example/strikeshift/strikeshift/adjust/Action").value _ s none s [] = some true := hn
  obtain ⟨wA, vA⟩ := exa_v hn'
  have SA := Sta.start vA (Or.inr ⟨(hw _ (List.mem_of_getElem? (i := 76) rfl)), (hw _ (List.mem_of_getElem? (i := 77) rfl))⟩)
  obtain ⟨n, o, h1, h2, h3, _, L, rfl, ⟨rfl, N, -⟩, hq⟩ := rm0 l s _ hw tables_1 i0 i1 i2 wA s.heap s.heap.size (Nat.le_refl _) (Old.start s) SA p e ha hc hk s m _ below hf ((Spec.applies_iff_loose hf).mp happ).1 ⟨rfl, State.Warmed39.refl s, rfl⟩ trivial
  refine ⟨n, _, h1, h2, h3, hpost _ _ _ _ _ _ ⟨Cond.after_iff.mpr rfl, Cond.after_iff.mpr (eq_i res_at (Term.int_eval (1)) rfl), trivial⟩ ⟨hq.1, hq.2.1, (hq.2.2.sift fun y hy => Or.inr (N y hy)).mono (by decide) (by decide)⟩⟩
theorem main_1_1 : Claimed_1_1 := comes_1 fun _ _ _ _ _ _ h hF => ⟨h.1, hF⟩
theorem main_1_2 : Claimed_1_2 := comes_1 fun _ _ _ _ _ _ h hF => ⟨h.2.1, hF⟩
end Jvm.Pilot.@@N@@
namespace Jvm.Pilot.@@N@@
open Jvm Jvm.ClassFile Sem Op Lib Jvm.Free Jvm.Stand Jvm.Pilot.@@N@@.Jvm.D
/-! MADE BY PROGRAM (witnessworld.py) out of the Statement's table words and the real class files: 14 classes; the members and pool entries that the words name. The judged class is class 1, her method 1. -/
namespace start1
open Jvm.ClassFile
def u (s : String) : CpInfo := .utf8 (stringToUtf16 s)
/-- a pool by its gaps: so many unusable entries, then the entry; so many at the end -/
def gap : Nat → List CpInfo → List CpInfo
  | 0, r => r
  | n + 1, r => .unusable :: gap n r
def poolList (es : List (Nat × CpInfo)) (last : Nat) : List CpInfo := es.foldr (fun e r => gap e.1 (e.2 :: r)) (gap last [])
def pool (es : List (Nat × CpInfo)) (last : Nat) : Array CpInfo := ⟨poolList es last⟩
def fileOf (pool : Array CpInfo) (this : Nat) (attrs : Array Attribute := #[]) (ms : Array MethodInfo := #[]) (fl : Nat := 33) (sup : Nat := 0) (ifs : Array Nat := #[]) (fds : Array FieldInfo := #[]) : ClassFile where
  minorVersion := 0
  majorVersion := 65
  constantPool := pool
  accessFlags := fl
  thisClass := this
  superClass := sup
  interfaces := ifs
  fields := fds
  methods := ms
  attributes := attrs
def plain (name : String) (sup : Option ClassId) : Class where
  name := name
  kind := .ordinary
  loader := none
  accessFlags := 33
  super := sup
  interfaces := #[]
  cf := none
  fields := #[]
  methods := #[]
  instanceTypes := #[]
  staticTypes := #[]
  resolved := #[]
  callSites := []
  init := .initialized
  statics := none
  mirror := none

def pool0 : Array CpInfo := pool [(5, u "<init>"), (0, u "()V"), (1, .class_ 10), (1, u "java/lang/Object")] 113

def k0c0 : Code := { maxStack := 0, maxLocals := 1, code := object_method_1_code, exceptionTable := #[], attributes := #[] }
def k0m0 : Method := { name := "<init>", desc := "()V", sig := { parameters := [], returnType := none }, accessFlags := 1, code := some k0c0 }
/-- java/lang/Object -/
def k0 : Class := { plain "java/lang/Object" none with
  accessFlags := 33
  interfaces := #[]
  cf := some (fileOf pool0 8 #[] #[{ accessFlags := 1, nameIndex := 5, descriptorIndex := 6, attributes := #[] }] 33 0 #[] #[])
  fields := #[]
  methods := #[k0m0]
  instanceTypes := #[]
  staticTypes := #[]
  resolved := Array.replicate 124 none
  statics := none }

def pool1 : Array CpInfo := pool [(2, .class_ 4), (0, .nameAndType 5 6), (0, u "java/lang/Object"), (0, u "<init>"), (0, u "()V"), (2, .long 9223372036854775807), (1, .integer 2147483647), (0, .class_ 13), (0, u "com/example/strikeshift/strikeshift/adjust/NewTerms"), (0, .methodref 12 3), (0, .fieldref 12 16), (0, .nameAndType 17 18), (0, u "settlementPrice"), (0, u "Lcom/example/strikeshift/strikeshift/decimal/Decimal;"), (0, .methodref 20 21), (0, .class_ 22), (0, .nameAndType 23 24), (0, u "com/example/strikeshift/strikeshift/decimal/Decimal"), (0, u "set"), (0, u "(JI)Lcom/example/strikeshift/strikeshift/decimal/Decimal;"), (0, .fieldref 12 26), (0, .nameAndType 27 18), (0, u "strike"), (0, .fieldref 12 29), (0, .nameAndType 30 18), (0, u "contractSize"), (0, .long 2), (1, .fieldref 12 34), (0, .nameAndType 35 36), (0, u "hasSettlementPrice"), (0, u "Z"), (0, .fieldref 12 38), (0, .nameAndType 39 36), (0, u "hasStrike"), (0, .fieldref 12 41), (0, .nameAndType 42 36), (0, u "hasContractSize"), (0, .methodref 12 44), (0, .nameAndType 45 6), (0, u "setUnadjusted"), (0, .methodref 12 47), (0, .nameAndType 17 48), (0, u "()Lcom/example/strikeshift/strikeshift/decimal/Decimal;"), (0, .methodref 20 50), (0, .nameAndType 51 52), (0, u "isLong"), (0, u "()Z"), (0, .methodref 20 54), (0, .nameAndType 55 56), (0, u "unscaled"), (0, u "()J"), (0, .methodref 20 58), (0, .nameAndType 59 60), (0, u "scale"), (0, u "()I"), (0, .class_ 62), (0, u "com/example/strikeshift/strikeshift/adjust/NewTermsSettlementPricePinLaw"), (2, u "law"), (0, u "(JII)Z")] 3

def k1m0 : Method := { name := "<init>", desc := "()V", sig := { parameters := [], returnType := none }, accessFlags := 1, code := none }
def k1c1 : Code := { maxStack := 5, maxLocals := 13, code := code, exceptionTable := #[], attributes := #[] }
def k1m1 : Method := { name := "law", desc := "(JII)Z", sig := { parameters := [.long, .int, .int], returnType := some .boolean }, accessFlags := 9, code := some k1c1 }
/-- com/example/strikeshift/strikeshift/adjust/NewTermsSettlementPricePinLaw -/
def k1 : Class := { plain "com/example/strikeshift/strikeshift/adjust/NewTermsSettlementPricePinLaw" (some 0) with
  accessFlags := 49
  interfaces := #[]
  cf := some (fileOf pool1 61 #[] #[{ accessFlags := 1, nameIndex := 5, descriptorIndex := 6, attributes := #[] }, { accessFlags := 9, nameIndex := 65, descriptorIndex := 66, attributes := #[] }] 49 2 #[] #[])
  fields := #[]
  methods := #[k1m0, k1m1]
  instanceTypes := #[]
  staticTypes := #[]
  resolved := Array.replicate 70 none
  statics := none }

def pool2 : Array CpInfo := pool [(1, .methodref 2 3), (0, .class_ 4), (0, .nameAndType 5 6), (0, u "java/lang/Object"), (0, u "<init>"), (0, u "()V"), (0, .class_ 8), (0, u "com/example/strikeshift/strikeshift/decimal/Decimal"), (0, .methodref 7 3), (0, .fieldref 11 12), (0, .class_ 13), (0, .nameAndType 14 15), (0, u "com/example/strikeshift/strikeshift/adjust/NewTerms"), (0, u "strike"), (0, u "Lcom/example/strikeshift/strikeshift/decimal/Decimal;"), (0, .fieldref 11 17), (0, .nameAndType 18 15), (0, u "contractSize"), (0, .fieldref 11 20), (0, .nameAndType 21 15), (0, u "settlementPrice"), (5, .fieldref 11 28), (0, .nameAndType 29 30), (0, u "hasStrike"), (0, u "Z"), (6, u "version"), (1, .fieldref 11 40), (0, .nameAndType 41 30), (0, u "hasVersion"), (8, u "J"), (2, .fieldref 11 54), (0, .nameAndType 55 30), (0, u "hasContractSize"), (2, .fieldref 11 59), (0, .nameAndType 60 30), (0, u "hasSettlementPrice"), (2, u "action"), (1, .fieldref 11 66), (0, .nameAndType 63 67), (0, u "Lcom/example/strikeshift/strikeshift/adjust/Action;"), (0, .fieldref 69 70), (0, .class_ 71), (0, .nameAndType 72 67), (0, u "com/example/strikeshift/strikeshift/adjust/Action"), (0, u "UNADJUSTED"), (18, u "setUnadjusted"), (6, u "()Lcom/example/strikeshift/strikeshift/decimal/Decimal;")] 2

def k2c0 : Code := { maxStack := 3, maxLocals := 1, code := prog_5_method_1_code, exceptionTable := #[], attributes := #[] }
def k2m0 : Method := { name := "<init>", desc := "()V", sig := { parameters := [], returnType := none }, accessFlags := 0, code := some k2c0 }
def k2c1 : Code := { maxStack := 2, maxLocals := 1, code := prog_5_method_3_code, exceptionTable := #[], attributes := #[] }
def k2m1 : Method := { name := "setUnadjusted", desc := "()V", sig := { parameters := [], returnType := none }, accessFlags := 0, code := some k2c1 }
def k2c2 : Code := { maxStack := 1, maxLocals := 1, code := prog_5_method_7_code, exceptionTable := #[], attributes := #[] }
def k2m2 : Method := { name := "settlementPrice", desc := "()Lcom/example/strikeshift/strikeshift/decimal/Decimal;", sig := { parameters := [], returnType := some (.object "com/example/strikeshift/strikeshift/decimal/Decimal") }, accessFlags := 0, code := some k2c2 }
/-- com/example/strikeshift/strikeshift/adjust/NewTerms -/
def k2 : Class := { plain "com/example/strikeshift/strikeshift/adjust/NewTerms" (some 0) with
  accessFlags := 48
  interfaces := #[]
  cf := some (fileOf pool2 11 #[] #[{ accessFlags := 0, nameIndex := 5, descriptorIndex := 6, attributes := #[] }, { accessFlags := 0, nameIndex := 91, descriptorIndex := 6, attributes := #[] }, { accessFlags := 0, nameIndex := 21, descriptorIndex := 98, attributes := #[] }] 48 2 #[] #[{ accessFlags := 16, nameIndex := 14, descriptorIndex := 15, attributes := #[] }, { accessFlags := 0, nameIndex := 29, descriptorIndex := 30, attributes := #[] }, { accessFlags := 0, nameIndex := 37, descriptorIndex := 50, attributes := #[] }, { accessFlags := 0, nameIndex := 41, descriptorIndex := 30, attributes := #[] }, { accessFlags := 16, nameIndex := 18, descriptorIndex := 15, attributes := #[] }, { accessFlags := 0, nameIndex := 55, descriptorIndex := 30, attributes := #[] }, { accessFlags := 16, nameIndex := 21, descriptorIndex := 15, attributes := #[] }, { accessFlags := 0, nameIndex := 60, descriptorIndex := 30, attributes := #[] }, { accessFlags := 0, nameIndex := 63, descriptorIndex := 67, attributes := #[] }])
  fields := #[{ name := "strike", type := (.object "com/example/strikeshift/strikeshift/decimal/Decimal"), accessFlags := 16, slot := 0, constantValue := 0 }, { name := "hasStrike", type := .boolean, accessFlags := 0, slot := 1, constantValue := 0 }, { name := "version", type := .long, accessFlags := 0, slot := 2, constantValue := 0 }, { name := "hasVersion", type := .boolean, accessFlags := 0, slot := 3, constantValue := 0 }, { name := "contractSize", type := (.object "com/example/strikeshift/strikeshift/decimal/Decimal"), accessFlags := 16, slot := 4, constantValue := 0 }, { name := "hasContractSize", type := .boolean, accessFlags := 0, slot := 5, constantValue := 0 }, { name := "settlementPrice", type := (.object "com/example/strikeshift/strikeshift/decimal/Decimal"), accessFlags := 16, slot := 6, constantValue := 0 }, { name := "hasSettlementPrice", type := .boolean, accessFlags := 0, slot := 7, constantValue := 0 }, { name := "action", type := (.object "com/example/strikeshift/strikeshift/adjust/Action"), accessFlags := 0, slot := 8, constantValue := 0 }]
  methods := #[k2m0, k2m1, k2m2]
  instanceTypes := #[(.object "com/example/strikeshift/strikeshift/decimal/Decimal"), .boolean, .long, .boolean, (.object "com/example/strikeshift/strikeshift/decimal/Decimal"), .boolean, (.object "com/example/strikeshift/strikeshift/decimal/Decimal"), .boolean, (.object "com/example/strikeshift/strikeshift/adjust/Action")]
  staticTypes := #[]
  resolved := Array.replicate 101 none
  statics := none }

def pool3 : Array CpInfo := pool [(1, .methodref 2 3), (0, .class_ 4), (0, .nameAndType 5 6), (0, u "java/lang/Object"), (0, u "<init>"), (0, u "()V"), (1, .class_ 10), (1, u "com/example/strikeshift/strikeshift/decimal/Decimal"), (2, .fieldref 8 14), (0, .nameAndType 15 16), (0, u "unscaled"), (0, u "J"), (0, .fieldref 8 18), (0, .nameAndType 19 20), (0, u "scale"), (0, u "I"), (0, .fieldref 8 22), (0, .nameAndType 23 24), (0, u "exact"), (0, u "Ljava/math/BigDecimal;"), (5, u "()I"), (14, u "()J"), (2, u "set"), (0, u "(JI)Lcom/example/strikeshift/strikeshift/decimal/Decimal;"), (25, u "POWERS"), (0, u "[J"), (46, u "LIMITS"), (32, u "LONG_DIGITS"), (6, u "isLong"), (0, u "()Z")] 34

def k3c0 : Code := { maxStack := 1, maxLocals := 1, code := prog_26_method_1_code, exceptionTable := #[], attributes := #[] }
def k3m0 : Method := { name := "<init>", desc := "()V", sig := { parameters := [], returnType := none }, accessFlags := 1, code := some k3c0 }
def k3c1 : Code := { maxStack := 4, maxLocals := 4, code := prog_26_method_2_code, exceptionTable := #[], attributes := #[] }
def k3m1 : Method := { name := "set", desc := "(JI)Lcom/example/strikeshift/strikeshift/decimal/Decimal;", sig := { parameters := [.long, .int], returnType := some (.object "com/example/strikeshift/strikeshift/decimal/Decimal") }, accessFlags := 1, code := some k3c1 }
def k3c2 : Code := { maxStack := 1, maxLocals := 1, code := prog_26_method_5_code, exceptionTable := #[], attributes := #[] }
def k3m2 : Method := { name := "isLong", desc := "()Z", sig := { parameters := [], returnType := some .boolean }, accessFlags := 1, code := some k3c2 }
def k3c3 : Code := { maxStack := 3, maxLocals := 1, code := prog_26_method_6_code, exceptionTable := #[], attributes := #[] }
def k3m3 : Method := { name := "unscaled", desc := "()J", sig := { parameters := [], returnType := some .long }, accessFlags := 1, code := some k3c3 }
def k3c4 : Code := { maxStack := 1, maxLocals := 1, code := prog_26_method_7_code, exceptionTable := #[], attributes := #[] }
def k3m4 : Method := { name := "scale", desc := "()I", sig := { parameters := [], returnType := some .int }, accessFlags := 1, code := some k3c4 }
/-- com/example/strikeshift/strikeshift/decimal/Decimal -/
def k3 : Class := { plain "com/example/strikeshift/strikeshift/decimal/Decimal" (some 0) with
  accessFlags := 49
  interfaces := #[]
  cf := some (fileOf pool3 8 #[] #[{ accessFlags := 1, nameIndex := 5, descriptorIndex := 6, attributes := #[] }, { accessFlags := 1, nameIndex := 48, descriptorIndex := 49, attributes := #[] }, { accessFlags := 1, nameIndex := 163, descriptorIndex := 164, attributes := #[] }, { accessFlags := 1, nameIndex := 15, descriptorIndex := 45, attributes := #[] }, { accessFlags := 1, nameIndex := 19, descriptorIndex := 30, attributes := #[] }] 49 2 #[] #[{ accessFlags := 25, nameIndex := 156, descriptorIndex := 20, attributes := #[] }, { accessFlags := 26, nameIndex := 75, descriptorIndex := 76, attributes := #[] }, { accessFlags := 26, nameIndex := 123, descriptorIndex := 76, attributes := #[] }, { accessFlags := 2, nameIndex := 15, descriptorIndex := 16, attributes := #[] }, { accessFlags := 2, nameIndex := 19, descriptorIndex := 20, attributes := #[] }, { accessFlags := 2, nameIndex := 23, descriptorIndex := 24, attributes := #[] }])
  fields := #[{ name := "LONG_DIGITS", type := .int, accessFlags := 25, slot := 0, constantValue := 0 }, { name := "POWERS", type := (.array .long), accessFlags := 26, slot := 1, constantValue := 0 }, { name := "LIMITS", type := (.array .long), accessFlags := 26, slot := 2, constantValue := 0 }, { name := "unscaled", type := .long, accessFlags := 2, slot := 0, constantValue := 0 }, { name := "scale", type := .int, accessFlags := 2, slot := 1, constantValue := 0 }, { name := "exact", type := (.object "java/math/BigDecimal"), accessFlags := 2, slot := 2, constantValue := 0 }]
  methods := #[k3m0, k3m1, k3m2, k3m3, k3m4]
  instanceTypes := #[.long, .int, (.object "java/math/BigDecimal")]
  staticTypes := #[.int, (.array .long), (.array .long)]
  resolved := Array.replicate 199 none
  statics := none }

def pool4 : Array CpInfo := pool [(1, .class_ 2), (0, u "java/lang/constant/Constable"), (0, .class_ 4), (0, u "java/lang/Object")] 6

/-- java/lang/constant/Constable -/
def k4 : Class := { plain "java/lang/constant/Constable" (some 0) with
  accessFlags := 1537
  interfaces := #[]
  cf := some (fileOf pool4 1 #[] #[] 1537 3 #[] #[])
  fields := #[]
  methods := #[]
  instanceTypes := #[]
  staticTypes := #[]
  resolved := Array.replicate 11 none
  statics := none }

def pool5 : Array CpInfo := pool [(1, .class_ 2), (0, u "java/lang/Comparable"), (0, .class_ 4), (0, u "java/lang/Object")] 7

/-- java/lang/Comparable -/
def k5 : Class := { plain "java/lang/Comparable" (some 0) with
  accessFlags := 1537
  interfaces := #[]
  cf := some (fileOf pool5 1 #[] #[] 1537 3 #[] #[])
  fields := #[]
  methods := #[]
  instanceTypes := #[]
  staticTypes := #[]
  resolved := Array.replicate 12 none
  statics := none }

def pool6 : Array CpInfo := pool [(1, .class_ 2), (0, u "java/io/Serializable"), (0, .class_ 4), (0, u "java/lang/Object")] 2

/-- java/io/Serializable -/
def k6 : Class := { plain "java/io/Serializable" (some 0) with
  accessFlags := 1537
  interfaces := #[]
  cf := some (fileOf pool6 1 #[] #[] 1537 3 #[] #[])
  fields := #[]
  methods := #[]
  instanceTypes := #[]
  staticTypes := #[]
  resolved := Array.replicate 7 none
  statics := none }

def pool7 : Array CpInfo := pool [(2, .class_ 4), (1, u "java/lang/Enum"), (0, u "name"), (0, u "Ljava/lang/String;"), (2, u "ordinal"), (0, u "I"), (1, .class_ 14), (1, u "java/lang/Object"), (4, u "hash"), (86, .class_ 108), (1, u "java/lang/Enum$EnumDesc"), (2, .class_ 112), (0, u "java/lang/constant/Constable"), (0, .class_ 114), (0, u "java/lang/Comparable"), (0, .class_ 116), (0, u "java/io/Serializable")] 87

/-- java/lang/Enum -/
def k7 : Class := { plain "java/lang/Enum" (some 0) with
  accessFlags := 1057
  interfaces := #[4, 5, 6]
  cf := some (fileOf pool7 2 #[.nestMembers #[106]] #[] 1057 12 #[111, 113, 115] #[{ accessFlags := 18, nameIndex := 5, descriptorIndex := 6, attributes := #[] }, { accessFlags := 18, nameIndex := 9, descriptorIndex := 10, attributes := #[] }, { accessFlags := 2, nameIndex := 19, descriptorIndex := 10, attributes := #[] }])
  fields := #[{ name := "name", type := (.object "java/lang/String"), accessFlags := 18, slot := 0, constantValue := 0 }, { name := "ordinal", type := .int, accessFlags := 18, slot := 1, constantValue := 0 }, { name := "hash", type := .int, accessFlags := 2, slot := 2, constantValue := 0 }]
  methods := #[]
  instanceTypes := #[(.object "java/lang/String"), .int, .int]
  staticTypes := #[]
  resolved := Array.replicate 204 none
  statics := none }

def pool8 : Array CpInfo := pool [(1, .class_ 2), (0, u "com/example/strikeshift/strikeshift/adjust/Action"), (2, u "ADJUSTED"), (0, u "Lcom/example/strikeshift/strikeshift/adjust/Action;"), (2, u "DELETED"), (2, u "UNADJUSTED"), (2, u "$VALUES"), (0, u "[Lcom/example/strikeshift/strikeshift/adjust/Action;"), (6, .class_ 25), (1, u "java/lang/Enum"), (8, u "key"), (0, u "Ljava/lang/String;")] 29

/-- com/example/strikeshift/strikeshift/adjust/Action -/
def k8 : Class := { plain "com/example/strikeshift/strikeshift/adjust/Action" (some 7) with
  accessFlags := 16433
  interfaces := #[]
  cf := some (fileOf pool8 1 #[] #[] 16433 23 #[] #[{ accessFlags := 16409, nameIndex := 5, descriptorIndex := 6, attributes := #[] }, { accessFlags := 16409, nameIndex := 9, descriptorIndex := 6, attributes := #[] }, { accessFlags := 16409, nameIndex := 12, descriptorIndex := 6, attributes := #[] }, { accessFlags := 18, nameIndex := 34, descriptorIndex := 35, attributes := #[] }, { accessFlags := 4122, nameIndex := 15, descriptorIndex := 16, attributes := #[] }])
  fields := #[{ name := "ADJUSTED", type := (.object "com/example/strikeshift/strikeshift/adjust/Action"), accessFlags := 16409, slot := 0, constantValue := 0 }, { name := "DELETED", type := (.object "com/example/strikeshift/strikeshift/adjust/Action"), accessFlags := 16409, slot := 1, constantValue := 0 }, { name := "UNADJUSTED", type := (.object "com/example/strikeshift/strikeshift/adjust/Action"), accessFlags := 16409, slot := 2, constantValue := 0 }, { name := "key", type := (.object "java/lang/String"), accessFlags := 18, slot := 3, constantValue := 0 }, { name := "$VALUES", type := (.array (.object "com/example/strikeshift/strikeshift/adjust/Action")), accessFlags := 4122, slot := 3, constantValue := 0 }]
  methods := #[]
  instanceTypes := #[(.object "java/lang/String"), .int, .int, (.object "java/lang/String")]
  staticTypes := #[(.object "com/example/strikeshift/strikeshift/adjust/Action"), (.object "com/example/strikeshift/strikeshift/adjust/Action"), (.object "com/example/strikeshift/strikeshift/adjust/Action"), (.array (.object "com/example/strikeshift/strikeshift/adjust/Action"))]
  resolved := Array.replicate 65 none
  statics := some 0 }

def pool9 : Array CpInfo := pool [(1, u "java/lang/Cloneable"), (0, .class_ 1), (0, u "java/lang/Object"), (0, .class_ 3)] 3

/-- java/lang/Cloneable -/
def k9 : Class := { plain "java/lang/Cloneable" (some 0) with
  accessFlags := 1537
  interfaces := #[]
  cf := some (fileOf pool9 2 #[] #[] 1537 4 #[] #[])
  fields := #[]
  methods := #[]
  instanceTypes := #[]
  staticTypes := #[]
  resolved := Array.replicate 8 none
  statics := none }

/-- the primitive byte -/
def k10 : Class := { plain "byte" none with kind := .primitive 'B', accessFlags := 0x411 }
/-- [B -/
def k11 : Class := { plain "[B" (some 0) with kind := .array 10 .byte, interfaces := #[9, 6], accessFlags := 1041 }

/-- the primitive int -/
def k12 : Class := { plain "int" none with kind := .primitive 'I', accessFlags := 0x411 }
/-- [I -/
def k13 : Class := { plain "[I" (some 0) with kind := .array 12 .int, interfaces := #[9, 6], accessFlags := 1041 }

def heap : Heap := #[{ cls := 8, slots := #[.null, .null, .ref 1, .null], vm := .statics 8 },
  { cls := 8, slots := #[.null, .int 3, .int 0, .null], vm := .none }]
def classes : Array Class := #[k0, k1, k2, k3, k4, k5, k6, k7, k8, k9, k10, k11, k12, k13]
def interned : List (Array UInt16 × Addr) := []
def slotsUsed : Nat := 8
def theMethod : MethodId := ⟨1, 1⟩
def args0 : Array Value := #[.long 5, .int 1, .int 2]
def aboutOver (below : List Frame) : State where
  vm := { classes := classes, interned := interned.toArray }
  heap := heap
  slotsUsed := slotsUsed
  threads := #[{ frames := .invoking theMethod args0 :: below }]
def below0 : List Frame := [.native { method := ⟨0, 0⟩, args := #[] }]
def about1 : State := aboutOver below0
def p0 : Program := .bare "" "" ""
def e0 : Env := launch0.env 0 0 0
theorem w_frames : about1.frames = Frame.invoking theMethod args0 :: below0 := rfl
set_option maxRecDepth 65536 in
theorem w_args : argsFit about1.vm theMethod args0 = true := by decide +kernel
set_option maxRecDepth 65536 in
theorem w_heap : heapFits about1 = true := by decide +kernel
set_option maxRecDepth 65536 in
theorem w_runnable : about1.curStatus? = some .runnable := by decide +kernel
set_option maxRecDepth 65536 in
theorem w_alone : about1.alone = true := by decide +kernel
set_option maxRecDepth 65536 in
theorem w_named : about1.methodNamed? x = some theMethod := by decide +kernel
set_option maxRecDepth 65536 in
theorem w_hears : about1.hears theMethod below0 = true := by decide +kernel
set_option maxRecDepth 65536 in
theorem w_ripe : about1.ripe theMethod args0 below0 = true := by decide +kernel
theorem w_running : about1.status = .running := rfl
set_option maxRecDepth 65536 in
theorem w_room : about1.hasRoom e0.platform room_1 = true :=
  launch0.hasRoom_least _ room_1 (by decide +kernel) (by decide +kernel) (by decide +kernel) (by decide +kernel) (by decide +kernel) (by decide +kernel)
theorem allAtoms_all (ts : List Jvm.Cond) (a : Array Jvm.Value) (st : Jvm.State) : (allAtoms ts).before a st = ts.all (fun c => c.before a st) := by
  induction ts with
  | nil => rfl
  | cons c t ih =>
    show (Jvm.Cond.and c (allAtoms t)).before a st = _
    rw [Jvm.Cond.before_and, ih, List.all_cons]
def words1 : List Jvm.Cond := Jvm.Cond.code x code maxLocals ret :: tables_1
/-- a 'code' word, met by the world's own term for the bytes: nothing is compared byte by byte -/
theorem code_word {y : MethodName} {bytes : ByteArray} {mx : Nat} {rt : Option FieldType} {a : Array Value} {s : State} {m : MethodId} {meth : Method} {c : Code} (h1 : s.methodNamed? y = some m) (h2 : s.vm.method? m = some meth) (h3 : meth.code = some c) (h4 : c.code = bytes)
    (h5 : (c.maxLocals == mx && c.exceptionTable.isEmpty && decide (c.maxStack ≤ mostOperands) && decide (meth.sig.returnType = rt) && !meth.locks && decide (parseMethodDescriptor y.desc = some meth.sig)) = true) : (Jvm.Cond.code y bytes mx rt).before a s = true := by
  simp only [Bool.and_eq_true, beq_iff_eq, Bool.not_eq_true', decide_eq_true_eq] at h5
  obtain ⟨⟨⟨⟨⟨g1, g2⟩, g3⟩, g4⟩, g5⟩, g6⟩ := h5
  simp [Cond.before, Cond.holds, Cond.value, h1, h2, h3, h4, g1, g2, g3, g4, g5, g6]
def isCode : Jvm.Cond → Bool
  | .code _ _ _ _ => true
  | _ => false
theorem all_split {L : List Jvm.Cond} {P : Jvm.Cond → Bool} (h1 : L.all (fun c => isCode c || P c) = true) (h2 : ∀ c ∈ L.filter isCode, P c = true) : L.all P = true := by
  refine List.all_eq_true.mpr fun c hc => ?_
  have h := List.all_eq_true.mp h1 c hc
  rcases Bool.eq_false_or_eq_true (isCode c) with hi | hi
  · exact h2 c (List.mem_filter.mpr ⟨hc, hi⟩)
  · simpa [hi] using h
set_option maxRecDepth 65536 in
theorem w_c0 : (Jvm.Cond.code x code maxLocals ret).before args0 about1 = true := code_word (m := ⟨1, 1⟩) (meth := k1m1) (c := k1c1) (by decide +kernel) rfl rfl rfl (by decide +kernel)
set_option maxRecDepth 65536 in
theorem w_c1 : (Jvm.Cond.code ({ cls := "com/example/strikeshift/strikeshift/adjust/NewTerms", name := "<init>", desc := "()V" } : Jvm.MethodName) prog_5_method_1_code (1 : Nat) (Option.none : Option Jvm.ClassFile.FieldType)).before args0 about1 = true := code_word (m := ⟨2, 0⟩) (meth := k2m0) (c := k2c0) (by decide +kernel) rfl rfl rfl (by decide +kernel)
set_option maxRecDepth 65536 in
theorem w_c2 : (Jvm.Cond.code ({ cls := "java/lang/Object", name := "<init>", desc := "()V" } : Jvm.MethodName) object_method_1_code (1 : Nat) (Option.none : Option Jvm.ClassFile.FieldType)).before args0 about1 = true := code_word (m := ⟨0, 0⟩) (meth := k0m0) (c := k0c0) (by decide +kernel) rfl rfl rfl (by decide +kernel)
set_option maxRecDepth 65536 in
theorem w_c3 : (Jvm.Cond.code ({ cls := "com/example/strikeshift/strikeshift/decimal/Decimal", name := "<init>", desc := "()V" } : Jvm.MethodName) prog_26_method_1_code (1 : Nat) (Option.none : Option Jvm.ClassFile.FieldType)).before args0 about1 = true := code_word (m := ⟨3, 0⟩) (meth := k3m0) (c := k3c0) (by decide +kernel) rfl rfl rfl (by decide +kernel)
set_option maxRecDepth 65536 in
theorem w_c4 : (Jvm.Cond.code ({ cls := "com/example/strikeshift/strikeshift/decimal/Decimal", name := "set", desc := "(JI)Lcom/example/strikeshift/strikeshift/decimal/Decimal;" } : Jvm.MethodName) prog_26_method_2_code (4 : Nat) (Option.some (Jvm.ClassFile.FieldType.object "com/example/strikeshift/strikeshift/decimal/Decimal"))).before args0 about1 = true := code_word (m := ⟨3, 1⟩) (meth := k3m1) (c := k3c1) (by decide +kernel) rfl rfl rfl (by decide +kernel)
set_option maxRecDepth 65536 in
theorem w_c5 : (Jvm.Cond.code ({ cls := "com/example/strikeshift/strikeshift/adjust/NewTerms", name := "settlementPrice", desc := "()Lcom/example/strikeshift/strikeshift/decimal/Decimal;" } : Jvm.MethodName) prog_5_method_7_code (1 : Nat) (Option.some (Jvm.ClassFile.FieldType.object "com/example/strikeshift/strikeshift/decimal/Decimal"))).before args0 about1 = true := code_word (m := ⟨2, 2⟩) (meth := k2m2) (c := k2c2) (by decide +kernel) rfl rfl rfl (by decide +kernel)
set_option maxRecDepth 65536 in
theorem w_c6 : (Jvm.Cond.code ({ cls := "com/example/strikeshift/strikeshift/decimal/Decimal", name := "isLong", desc := "()Z" } : Jvm.MethodName) prog_26_method_5_code (1 : Nat) (Option.some Jvm.ClassFile.FieldType.boolean)).before args0 about1 = true := code_word (m := ⟨3, 2⟩) (meth := k3m2) (c := k3c2) (by decide +kernel) rfl rfl rfl (by decide +kernel)
set_option maxRecDepth 65536 in
theorem w_c7 : (Jvm.Cond.code ({ cls := "com/example/strikeshift/strikeshift/decimal/Decimal", name := "unscaled", desc := "()J" } : Jvm.MethodName) prog_26_method_6_code (1 : Nat) (Option.some Jvm.ClassFile.FieldType.long)).before args0 about1 = true := code_word (m := ⟨3, 3⟩) (meth := k3m3) (c := k3c3) (by decide +kernel) rfl rfl rfl (by decide +kernel)
set_option maxRecDepth 65536 in
theorem w_c8 : (Jvm.Cond.code ({ cls := "com/example/strikeshift/strikeshift/decimal/Decimal", name := "scale", desc := "()I" } : Jvm.MethodName) prog_26_method_7_code (1 : Nat) (Option.some Jvm.ClassFile.FieldType.int)).before args0 about1 = true := code_word (m := ⟨3, 4⟩) (meth := k3m4) (c := k3c4) (by decide +kernel) rfl rfl rfl (by decide +kernel)
set_option maxRecDepth 65536 in
theorem w_c9 : (Jvm.Cond.code ({ cls := "com/example/strikeshift/strikeshift/adjust/NewTerms", name := "setUnadjusted", desc := "()V" } : Jvm.MethodName) prog_5_method_3_code (1 : Nat) (Option.none : Option Jvm.ClassFile.FieldType)).before args0 about1 = true := code_word (m := ⟨2, 1⟩) (meth := k2m1) (c := k2c1) (by decide +kernel) rfl rfl rfl (by decide +kernel)
def codes1 : List Jvm.Cond := [Jvm.Cond.code x code maxLocals ret, Jvm.Cond.code ({ cls := "com/example/strikeshift/strikeshift/adjust/NewTerms", name := "<init>", desc := "()V" } : Jvm.MethodName) prog_5_method_1_code (1 : Nat) (Option.none : Option Jvm.ClassFile.FieldType), Jvm.Cond.code ({ cls := "java/lang/Object", name := "<init>", desc := "()V" } : Jvm.MethodName) object_method_1_code (1 : Nat) (Option.none : Option Jvm.ClassFile.FieldType), Jvm.Cond.code ({ cls := "com/example/strikeshift/strikeshift/decimal/Decimal", name := "<init>", desc := "()V" } : Jvm.MethodName) prog_26_method_1_code (1 : Nat) (Option.none : Option Jvm.ClassFile.FieldType), Jvm.Cond.code ({ cls := "com/example/strikeshift/strikeshift/decimal/Decimal", name := "set", desc := "(JI)Lcom/example/strikeshift/strikeshift/decimal/Decimal;" } : Jvm.MethodName) prog_26_method_2_code (4 : Nat) (Option.some (Jvm.ClassFile.FieldType.object "com/example/strikeshift/strikeshift/decimal/Decimal")), Jvm.Cond.code ({ cls := "com/example/strikeshift/strikeshift/adjust/NewTerms", name := "settlementPrice", desc := "()Lcom/example/strikeshift/strikeshift/decimal/Decimal;" } : Jvm.MethodName) prog_5_method_7_code (1 : Nat) (Option.some (Jvm.ClassFile.FieldType.object "com/example/strikeshift/strikeshift/decimal/Decimal")), Jvm.Cond.code ({ cls := "com/example/strikeshift/strikeshift/decimal/Decimal", name := "isLong", desc := "()Z" } : Jvm.MethodName) prog_26_method_5_code (1 : Nat) (Option.some Jvm.ClassFile.FieldType.boolean), Jvm.Cond.code ({ cls := "com/example/strikeshift/strikeshift/decimal/Decimal", name := "unscaled", desc := "()J" } : Jvm.MethodName) prog_26_method_6_code (1 : Nat) (Option.some Jvm.ClassFile.FieldType.long), Jvm.Cond.code ({ cls := "com/example/strikeshift/strikeshift/decimal/Decimal", name := "scale", desc := "()I" } : Jvm.MethodName) prog_26_method_7_code (1 : Nat) (Option.some Jvm.ClassFile.FieldType.int), Jvm.Cond.code ({ cls := "com/example/strikeshift/strikeshift/adjust/NewTerms", name := "setUnadjusted", desc := "()V" } : Jvm.MethodName) prog_5_method_3_code (1 : Nat) (Option.none : Option Jvm.ClassFile.FieldType)]
set_option maxRecDepth 65536 in
theorem codes_eq : words1.filter isCode = codes1 := rfl
theorem w_codes : ∀ c ∈ words1.filter isCode, c.before args0 about1 = true := by
  rw [codes_eq]
  intro c hc
  simp only [codes1, List.mem_cons, List.not_mem_nil, or_false] at hc
  rcases hc with rfl | rfl | rfl | rfl | rfl | rfl | rfl | rfl | rfl | rfl
  · exact w_c0
  · exact w_c1
  · exact w_c2
  · exact w_c3
  · exact w_c4
  · exact w_c5
  · exact w_c6
  · exact w_c7
  · exact w_c8
  · exact w_c9
set_option maxRecDepth 65536 in
theorem w_t1 : (words1.take 24).all (fun c => isCode c || c.before args0 about1) = true := by decide +kernel
set_option maxRecDepth 65536 in
theorem w_t2 : ((words1.drop 24).take 24).all (fun c => isCode c || c.before args0 about1) = true := by decide +kernel
set_option maxRecDepth 65536 in
theorem w_t3 : (((words1.drop 24).drop 24).take 24).all (fun c => isCode c || c.before args0 about1) = true := by decide +kernel
set_option maxRecDepth 65536 in
theorem w_t4 : (((words1.drop 24).drop 24).drop 24).all (fun c => isCode c || c.before args0 about1) = true := by decide +kernel
theorem w_tables : (allAtoms (Jvm.Cond.code x code maxLocals ret :: tables_1)).before args0 about1 = true := by
  rw [allAtoms_all]
  show words1.all (fun c => c.before args0 about1) = true
  refine all_split ?_ w_codes
  rw [← List.take_append_drop 24 words1, List.all_append, w_t1, ← List.take_append_drop 24 (words1.drop 24), List.all_append, w_t2, ← List.take_append_drop 24 ((words1.drop 24).drop 24), List.all_append, w_t3, w_t4]
  rfl
set_option maxRecDepth 65536 in
theorem w_case : (Jvm.Cond.and given_1 narrow_1).before args0 about1 = true := by decide +kernel
theorem w_applies : (headSpec (Jvm.Cond.code x code maxLocals ret :: tables_1) room_1).applies x e0.platform about1 = true :=
  (Spec.applies_iff w_frames).mpr ⟨w_running, w_runnable, w_alone, w_named, w_hears, w_ripe, w_room, w_tables⟩
theorem atStart : AtStart classFile x code maxLocals ret World_1 tables_1 room_1 Calls_1 rest_1 Pre_1 launch0 p0 e0 about1 theMethod args0 below0 :=
  ⟨lists_1, trivial, launch0.admits_env _ _ _, launch0.least_env, fairChoices_fair.cas, fairChoices_fair.clock, w_frames, w_args, w_heap, w_applies, trivial, trivial, w_case⟩
end start1
theorem witness_1 : WitnessClaimed_1 := ⟨start1.p0, start1.e0, start1.about1, start1.theMethod, start1.args0, start1.below0, start1.atStart⟩
end Jvm.Pilot.@@N@@
