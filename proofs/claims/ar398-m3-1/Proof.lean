import JvmDerived
import JvmDerived.Pilot.@@N@@Statement
import JvmDerived.Pilot.@@N@@Code
set_option linter.unusedVariables false
set_option linter.unusedSimpArgs false
namespace Jvm.RoadKit
open Sem ClassFile Op Lib Jvm.Stand Jvm.Free Jvm.LawKit
section New
variable {p : Program} {l : Launch} {e : Env} {R : Room} {s : State} {m : MethodId} {args : Array Value} {below : List Frame} {meth : Method} {c : Code} {T : State} {locs : List Loc} {cells slots : Nat}
theorem retI (X : Stand p l e R s m args below meth c T locs cells slots) (hx : p.tables.exec = Jvm.exec) {pc : Nat} {Ls : Array Slot} {z : Int32} {rest : List Value} (hret : meth.sig.returnType = some .int) (hd : decode c.code pc = .ok (.ireturn, 1)) {fs : List Frame}
    (hl : ∀ (f : JFrame) (acts : List Action), f.method = m → f.locked = none → f.entered = [] → (doReturn e (T.setTop f) acts (some (.int z))).1 = T.setFrames fs) : Steps p.tables e below (T.setTop (mkF m pc Ls (.int z :: rest))) (T.setFrames fs) := by
  have hm' : T.vm.method? m = some meth := X.method'
  have hn : narrow .int (.int z) = .int z := rfl
  show Steps p.tables e below (T.setTop { method := m, pc := pc, locals := Ls, stack := _ :: rest, locked := none }) _
  jvm_step X.here [X.here.top, hx, hd, hm', hret, hn]
  first | (intro acts; rw [hl _ acts rfl rfl rfl]) | rw [hl _ _ rfl rfl rfl]
  exact Steps.refl _
end New
end Jvm.RoadKit
namespace Jvm.Pilot.@@N@@
open Jvm Jvm.ClassFile Sem Op Lib Jvm.Free Jvm.Stand Jvm.LawKit Jvm.RoadKit Bundle Jvm.Pilot.@@N@@.Jvm.D
theorem own_eqI {args : Array Value} {s : State} {t : Term} {k : Int32} (h : (Jvm.Cond.eq t (.int k)).value args s none s [] = some true) : t.eval args s none [] s = some (.int k) := by
  simp only [Cond.value, Term.eval] at h
  cases ht : t.eval args s none [] s with
  | none => simp [ht] at h
  | some x => cases x <;> simp [ht] at h ⊢; exact h
theorem own_ne {args : Array Value} {s : State} {t u : Term} {a b : Addr} {C n d : String} {j k : Int32} (ha : t.eval args s none [] s = some (.ref a)) (hb : u.eval args s none [] s = some (.ref b))
    (h1 : (Jvm.Cond.eq (.field t C n d) (.int j)).value args s none s [] = some true) (h2 : (Jvm.Cond.eq (.field u C n d) (.int k)).value args s none s [] = some true) (hjk : j ≠ k) : ¬ (a = b) := fun e => by
  have q1 := own_eqI h1
  have q2 := own_eqI h2
  rw [fld_at ha] at q1
  rw [fld_at hb, ← e, q1] at q2
  exact hjk (Value.int.inj (Option.some.inj q2))
theorem own_mod4 (x : Int32) : ((x &&& (2147483647 : Int32)) % (4 : Int32)) = 0 ∨ ((x &&& (2147483647 : Int32)) % (4 : Int32)) = 1 ∨ ((x &&& (2147483647 : Int32)) % (4 : Int32)) = 2 ∨ ((x &&& (2147483647 : Int32)) % (4 : Int32)) = 3 := by
  have h0 := (c_and x 2147483647 (by decide)).1
  have h1 := (c_iremV (x &&& (2147483647 : Int32)) 4).1 h0 (by decide)
  have e4 : (4 : Int32).toInt = 4 := by decide
  rw [e4] at h1
  have hz : ∀ k : Int32, ((x &&& (2147483647 : Int32)) % (4 : Int32)).toInt = k.toInt → ((x &&& (2147483647 : Int32)) % (4 : Int32)) = k := fun k h => Int32.toInt_inj.mp h
  have h2 : ((x &&& (2147483647 : Int32)) % (4 : Int32)).toInt = 0 ∨ ((x &&& (2147483647 : Int32)) % (4 : Int32)).toInt = 1 ∨ ((x &&& (2147483647 : Int32)) % (4 : Int32)).toInt = 2 ∨ ((x &&& (2147483647 : Int32)) % (4 : Int32)).toInt = 3 := by omega
  rcases h2 with h | h | h | h
  · exact Or.inl (hz 0 (by rw [h]; decide))
  · exact Or.inr (Or.inl (hz 1 (by rw [h]; decide)))
  · exact Or.inr (Or.inr (Or.inl (hz 2 (by rw [h]; decide))))
  · exact Or.inr (Or.inr (Or.inr (hz 3 (by rw [h]; decide))))
theorem own_arv4 {args : Array Value} {s : State} {t : Term} {a : Addr} {cl : Cell} {v0 v1 v2 v3 : Int32} (hf : Fit s) (A : Arr s s.heap a cl .int) (ht : t.eval args s none [] s = some (.ref a)) (hl : (Jvm.Cond.eq (.length t) (.int 4)).value args s none s [] = some true)
    (h0 : (Jvm.Cond.eq (.elem t (.int 0)) (.int v0)).value args s none s [] = some true) (h1 : (Jvm.Cond.eq (.elem t (.int 1)) (.int v1)).value args s none s [] = some true) (h2 : (Jvm.Cond.eq (.elem t (.int 2)) (.int v2)).value args s none s [] = some true) (h3 : (Jvm.Cond.eq (.elem t (.int 3)) (.int v3)).value args s none s [] = some true) :
    Arv s s.heap a cl.cls .int (4 : Int32) [(.int v0), (.int v1), (.int v2), (.int v3)] (.int (0 : Int32)) := by
  have hA : s.arrayAt? a = some cl := Arr.fin (U := s) (Vm.Alike.refl _) A
  have q : cl.slots.size < 2 ^ 31 := by
    have hl' := own_eqI hl
    by_cases q : cl.slots.size < 2 ^ 31
    · exact q
    · simp [Term.eval, ht, hA, q] at hl'
  have e : cl.slots.size.toInt32 = 4 := Value.int.inj (Option.some.inj ((len_f ht hA q).symm.trans (own_eqI hl)))
  exact Arv.start hf A q e (by decide) rfl ⟨(elem_in (own_eqI h0) ht rfl A.1).2, (elem_in (own_eqI h1) ht rfl A.1).2, (elem_in (own_eqI h2) ht rfl A.1).2, (elem_in (own_eqI h3) ht rfl A.1).2, trivial⟩
theorem pn_java_lang_Enum : plainName "java/lang/Enum" = true := by first | (simp [plainName, overriddenIn]; done) | decide +kernel
theorem ef_2 (m : MethodId) (x0 : Addr) : entryFrame m #[(.ref x0)] 1 = mkF m 0 #[.val (.ref x0)] [] := by first | (simp [entryFrame, mkF, argsToLocals, Value.category]; done) | rfl
theorem d2_0 : decode jdk_37_method_2_code 0 = .ok (.aload_n 0, 1) := by decide +kernel
theorem d2_1 : decode jdk_37_method_2_code 1 = .ok (.getfield 7, 3) := by decide +kernel
theorem d2_4 : decode jdk_37_method_2_code 4 = .ok (.ireturn, 1) := by decide +kernel
def Q_rm2 (Z : State) (a1 : Addr) (k : Int32) (h0 : Heap) (n0 : Nat) (v : Option Value) (h : Heap) (L : List Loc) : Prop := v = some (.int k) ∧ Fr n0 L ∧ h = h0
set_option maxRecDepth 65536 in
set_option maxHeartbeats 40000000 in
theorem rm2 (l : Launch) (Z : State) (a0 : Array Value) (hw : ∀ d ∈ tables_1, d.before a0 Z = true) (ws : List Jvm.Cond) (a1 : Addr) (k : Int32) (h0 : Heap) (n0 : Nat) (Z0 : n0 ≤ h0.size) (F : Fld Z h0 a1 "java/lang/Enum" "ordinal" "I" (.int k)) :
    MetFree l (⟨"java/lang/Enum", "ordinal", "()I"⟩ : MethodName) (head1 (Jvm.Cond.code (⟨"java/lang/Enum", "ordinal", "()I"⟩ : MethodName) jdk_37_method_2_code 1 (some .int) :: ws) ({ frames := 0, cells := 0, slots := 0, locals := 0 } : Room)) (fun a U => a = #[(.ref a1)] ∧ Z.Warmed39 U.vm ∧ U.heap = h0) (fun _ _ _ _ _ => True) (fun _ U o U' => ∃ v L, o = .returned v ∧ Q_rm2 Z a1 k h0 n0 v U'.heap L ∧ FrameEnd U o U' L ({ frames := 0, cells := 0, slots := 0, locals := 0 } : Room).cells ({ frames := 0, cells := 0, slots := 0, locals := 0 } : Room).slots) := by
  refine MetFree.of_bodySF (plainFor_of_name pn_java_lang_Enum) hisR ?_
  intro p e s m args below meth c s₁ Bd hml0 hP hK
  obtain ⟨rfl, hZ, hh⟩ := hP
  have hx := Bd.exec
  have hby := Bd.bytes
  have hml : c.maxLocals = 1 := hml0
  have hown : s.vm.findClass "java/lang/Enum" = some m.cls := findClass_of_methodNamed Bd.named
  have hnm := (name_of_methodNamed Bd.named Bd.method).1
  have X0 : Stand p l e ({ frames := 0, cells := 0, slots := 0, locals := 0 } : Room) s m #[(.ref a1)] below meth c s₁ [] 0 0 := Stand.of_body Bd
  have e0 : s₁.heap = h0 := by rw [← hh, Bd.state]; rfl
  have N0 := Fr.nil n0
  have pre0 : ∀ t, Steps p.tables e below (s₁.setTop (mkF m 0 #[.val (.ref a1)] [])) t → Steps p.tables e below (s₁.setTop (entryFrame m #[(.ref a1)] 1)) t := fun t k => castTop (ef_2 m a1) k
  obtain ⟨S0, hS0⟩ : ∃ S, S = s₁.setTop (entryFrame m #[(.ref a1)] 1) := ⟨_, rfl⟩
  rw [← hS0] at pre0 ⊢
  obtain ⟨T1, X1, e1, st1⟩ := getF X0 hx hZ hown (host := "") (Or.inl (hw _ (List.mem_of_getElem? (i := 18) rfl))) Via.refl e0 F (g := (mkF m 1 #[.val (.ref a1)] [(.ref a1)])) rfl rfl (hb hby d2_1)
  obtain ⟨fs, hr, hrun, hended, hW, hsame⟩ := X1.leave (v := some (.int k)) (fun h => by rw [Bd.returns] at h; cases h)
  refine ⟨_, _, pre0 _ ?_, hrun, hended, _, _, rfl, ?_, ⟨_, rfl⟩, hW, hsame.mono (by decide) (by decide)⟩
  · show Steps p.tables e below (s₁.setTop (mkF m 0 #[.val (.ref a1)] [])) _
    refine XS.aloadN X0.here hx rfl (hb hby d2_0) rfl rfl ?_
    show Steps p.tables e below (s₁.setTop (mkF m 1 #[.val (.ref a1)] [(.ref a1)])) _
    refine st1 _ ?_
    show Steps p.tables e below (T1.setTop (mkF m 4 #[.val (.ref a1)] [(.int k)])) _
    exact retI X1 hx Bd.returns (hb hby d2_4) hr
  · show Q_rm2 Z a1 k h0 n0 _ T1.heap _
    rw [e1]
    exact ⟨rfl, N0, rfl⟩
theorem pn_com_example_modfin_modfin_alloy_Verdict : plainName "com/example/modfin/modfin/alloy/Verdict" = true := by first | (simp [plainName, overriddenIn]; done) | decide +kernel
theorem ef_1 (m : MethodId) (x0 : Addr) (x1 : Int32) : entryFrame m #[(.ref x0), (.int x1)] 2 = mkF m 0 #[.val (.ref x0), .val (.int x1)] [] := by first | (simp [entryFrame, mkF, argsToLocals, Value.category]; done) | rfl
theorem d1_0 : decode prog_3_method_4_code 0 = .ok (.getstatic 45, 3) := by decide +kernel
theorem d1_3 : decode prog_3_method_4_code 3 = .ok (.aload_n 0, 1) := by decide +kernel
theorem d1_4 : decode prog_3_method_4_code 4 = .ok (.invokevirtual 51, 3) := by decide +kernel
theorem pd_0 : parseMethodDescriptor "()I" = some ⟨[], some .int⟩ := by decide +kernel
theorem d1_7 : decode prog_3_method_4_code 7 = .ok (.iaload, 1) := by decide +kernel
theorem d1_8 : decode prog_3_method_4_code 8 = .ok (.tableswitch 60 1 3 #[28, 42, 56], 28) := by decide +kernel
theorem d1_36 : decode prog_3_method_4_code 36 = .ok (.iload_n 1, 1) := by decide +kernel
theorem d1_37 : decode prog_3_method_4_code 37 = .ok (.ifCond .eq 9, 3) := by decide +kernel
theorem d1_40 : decode prog_3_method_4_code 40 = .ok (.getstatic 10, 3) := by decide +kernel
theorem d1_43 : decode prog_3_method_4_code 43 = .ok (.goto 6, 3) := by decide +kernel
theorem d1_49 : decode prog_3_method_4_code 49 = .ok (.areturn, 1) := by decide +kernel
theorem d1_46 : decode prog_3_method_4_code 46 = .ok (.getstatic 3, 3) := by decide +kernel
theorem d1_50 : decode prog_3_method_4_code 50 = .ok (.iload_n 1, 1) := by decide +kernel
theorem d1_51 : decode prog_3_method_4_code 51 = .ok (.ifCond .eq 9, 3) := by decide +kernel
theorem d1_54 : decode prog_3_method_4_code 54 = .ok (.getstatic 13, 3) := by decide +kernel
theorem d1_57 : decode prog_3_method_4_code 57 = .ok (.goto 6, 3) := by decide +kernel
theorem d1_63 : decode prog_3_method_4_code 63 = .ok (.areturn, 1) := by decide +kernel
theorem d1_60 : decode prog_3_method_4_code 60 = .ok (.getstatic 7, 3) := by decide +kernel
theorem d1_64 : decode prog_3_method_4_code 64 = .ok (.getstatic 16, 3) := by decide +kernel
theorem d1_67 : decode prog_3_method_4_code 67 = .ok (.areturn, 1) := by decide +kernel
theorem d1_68 : decode prog_3_method_4_code 68 = .ok (.getstatic 19, 3) := by decide +kernel
theorem d1_71 : decode prog_3_method_4_code 71 = .ok (.areturn, 1) := by decide +kernel
def Q_rm1 (Z : State) (oo : Addr) (c1 : Int32) (aS : Addr) (kS : ClassId) (w : Addr) (h0 : Heap) (n0 : Nat) (v : Option Value) (h : Heap) (L : List Loc) : Prop := v = some (.ref w) ∧ Fr n0 L ∧ h = h0
set_option maxRecDepth 65536 in
set_option maxHeartbeats 40000000 in
theorem rm1 (l : Launch) (Z : State) (a0 : Array Value) (hw : ∀ d ∈ tables_1, d.before a0 Z = true) (ws : List Jvm.Cond) (oo : Addr) (c1 : Int32) (aS : Addr) (kS : ClassId) (w : Addr) (h0 : Heap) (n0 : Nat) (Z0 : n0 ≤ h0.size) (E : Exa Z h0 oo "com/example/modfin/modfin/core/Outcome") (SM : Sta Z h0 "com/example/modfin/modfin/alloy/Verdict$1" "$SwitchMap$com$example$modfin$modfin$core$Outcome" "[I" (.ref aS)) (VS : Arv Z h0 aS kS .int (4 : Int32) [(.int (1 : Int32)), (.int (2 : Int32)), (.int (3 : Int32)), (.int (0 : Int32))] (.int (0 : Int32))) (hp : (Fld Z h0 oo "java/lang/Enum" "ordinal" "I" (.int (0 : Int32)) ∧ ((¬ (c1 = (0 : Int32)) ∧ Sta Z h0 "com/example/modfin/modfin/alloy/Verdict" "COUNTEREXAMPLE" "Lcom/example/modfin/modfin/alloy/Verdict;" (.ref w)) ∨ (c1 = (0 : Int32) ∧ Sta Z h0 "com/example/modfin/modfin/alloy/Verdict" "INSTANCE" "Lcom/example/modfin/modfin/alloy/Verdict;" (.ref w)))) ∨ (Fld Z h0 oo "java/lang/Enum" "ordinal" "I" (.int (1 : Int32)) ∧ ((¬ (c1 = (0 : Int32)) ∧ Sta Z h0 "com/example/modfin/modfin/alloy/Verdict" "NO_COUNTEREXAMPLE" "Lcom/example/modfin/modfin/alloy/Verdict;" (.ref w)) ∨ (c1 = (0 : Int32) ∧ Sta Z h0 "com/example/modfin/modfin/alloy/Verdict" "NO_INSTANCE" "Lcom/example/modfin/modfin/alloy/Verdict;" (.ref w)))) ∨ (Fld Z h0 oo "java/lang/Enum" "ordinal" "I" (.int (2 : Int32)) ∧ Sta Z h0 "com/example/modfin/modfin/alloy/Verdict" "TIMEOUT" "Lcom/example/modfin/modfin/alloy/Verdict;" (.ref w)) ∨ (Fld Z h0 oo "java/lang/Enum" "ordinal" "I" (.int (3 : Int32)) ∧ Sta Z h0 "com/example/modfin/modfin/alloy/Verdict" "UNKNOWN" "Lcom/example/modfin/modfin/alloy/Verdict;" (.ref w))) :
    MetFree l (⟨"com/example/modfin/modfin/alloy/Verdict", "of", "(Lcom/example/modfin/modfin/core/Outcome;Z)Lcom/example/modfin/modfin/alloy/Verdict;"⟩ : MethodName) (head1 (Jvm.Cond.code (⟨"com/example/modfin/modfin/alloy/Verdict", "of", "(Lcom/example/modfin/modfin/core/Outcome;Z)Lcom/example/modfin/modfin/alloy/Verdict;"⟩ : MethodName) prog_3_method_4_code 2 (some (.object "com/example/modfin/modfin/alloy/Verdict")) :: ws) ({ frames := 1, cells := 0, slots := 0, locals := 20 } : Room)) (fun a U => a = #[(.ref oo), (.int c1)] ∧ Z.Warmed39 U.vm ∧ U.heap = h0) (fun _ _ _ _ _ => True) (fun _ U o U' => ∃ v L, o = .returned v ∧ Q_rm1 Z oo c1 aS kS w h0 n0 v U'.heap L ∧ FrameEnd U o U' L ({ frames := 1, cells := 0, slots := 0, locals := 20 } : Room).cells ({ frames := 1, cells := 0, slots := 0, locals := 20 } : Room).slots) := by
  refine MetFree.of_bodySF (plainFor_of_name pn_com_example_modfin_modfin_alloy_Verdict) hisR ?_
  intro p e s m args below meth c s₁ Bd hml0 hP hK
  obtain ⟨rfl, hZ, hh⟩ := hP
  have hx := Bd.exec
  have hby := Bd.bytes
  have hml : c.maxLocals = 2 := hml0
  have hown : s.vm.findClass "com/example/modfin/modfin/alloy/Verdict" = some m.cls := findClass_of_methodNamed Bd.named
  have hnm := (name_of_methodNamed Bd.named Bd.method).1
  have X0 : Stand p l e ({ frames := 1, cells := 0, slots := 0, locals := 20 } : Room) s m #[(.ref oo), (.int c1)] below meth c s₁ [] 0 0 := Stand.of_body Bd
  have e0 : s₁.heap = h0 := by rw [← hh, Bd.state]; rfl
  have N0 := Fr.nil n0
  have pre0 : ∀ t, Steps p.tables e below (s₁.setTop (mkF m 0 #[.val (.ref oo), .val (.int c1)] [])) t → Steps p.tables e below (s₁.setTop (entryFrame m #[(.ref oo), (.int c1)] 2)) t := fun t k => castTop (ef_1 m oo c1) k
  obtain ⟨S0, hS0⟩ : ∃ S, S = s₁.setTop (entryFrame m #[(.ref oo), (.int c1)] 2) := ⟨_, rfl⟩
  rw [← hS0] at pre0 ⊢
  rcases hp with ⟨F, ⟨d1, S1⟩ | ⟨d1, S1⟩⟩ | ⟨F, ⟨d1, S1⟩ | ⟨d1, S1⟩⟩ | ⟨F, S1⟩ | ⟨F, S1⟩
  · obtain ⟨T1, X1, e1, st1⟩ := getS2 X0 hx hZ hown (host := "") (Or.inl (hw _ (List.mem_of_getElem? (i := 8) rfl))) Via.refl e0 SM (g := (mkF m 0 #[.val (.ref oo), .val (.int c1)] [])) rfl (hb hby d1_0)
    obtain ⟨cq2, kq2, q2a, q2b, q2c⟩ := isOf hZ e1 E
    obtain ⟨_, _, ⟨T2, L2, k2, n2⟩, -, X2, ⟨Lc2, hQ2, l2, y2, z2⟩, st2⟩ := X1.virtualBackUp hx (owner := "java/lang/Enum") (x := (⟨"com/example/modfin/modfin/core/Outcome", "ordinal", "()I"⟩ : MethodName)) (y := (⟨"java/lang/Enum", "ordinal", "()I"⟩ : MethodName)) hown (mvT hZ (hw _ (List.mem_of_getElem? (i := 11) rfl))) (mvT hZ (hw _ (List.mem_of_getElem? (i := 12) rfl))) (mvT hZ (hw _ (List.mem_of_getElem? (i := 13) rfl))) (by decide) (mvT hZ (hw _ (List.mem_of_getElem? (i := 15) rfl))) (mvT hZ (hw _ (List.mem_of_getElem? (i := 14) rfl))) (backOf (W := 1) (rm2 l Z a0 hw [] oo (0 : Int32) h0 n0 (Nat.le_trans Z0 (Keep.refl h0 []).1) F) hZ (hw _ (List.mem_of_getElem? (i := 17) rfl)) (hw _ (List.mem_of_getElem? (i := 16) rfl)) (by decide) (by decide)) q2a q2c (g := (mkF m 4 #[.val (.ref oo), .val (.int c1)] [(.ref oo), (.ref aS)])) rfl (by rw [hml]; rfl) (Steps.refl _) (argsL := []) (rest := [(.ref aS)]) (lenOf pd_0 rfl) rfl (by show 2 * 0 + _ ≤ _; exact Nat.le_of_eq rfl) (hb hby d1_4) (fun _ _ => ⟨rfl, e1, (by decide : 0 + 0 ≤ _), (by decide : 0 + 0 ≤ _)⟩)
    dsimp only [Pt.U, Pt.locs, Pt.cells, Pt.slots] at X2 l2 y2 z2 st2 hQ2
    subst l2 y2 z2
    obtain ⟨rfl, N2q, eq2⟩ := hQ2
    have N2 := Fr.app N0 N2q
    have e2 : T2.heap = h0 := eq2
    obtain ⟨cl3, Arcl3, qcl3, Scl3, Ncl3, Hcl3, Gcl3⟩ := VS
    have hincl3 : ¬ ((0 : Int32) < 0 ∨ cl3.slots.size ≤ ((0 : Int32)).toNatClampNeg) := inb_of Scl3 ⟨by decide, by decide⟩
    have hatcl3 : cl3.slots[((0 : Int32)).toNatClampNeg]? = some (.int (1 : Int32)) := Hcl3.at hincl3 rfl
    obtain ⟨T4, X4, e4, st4⟩ := getS2 X2 hx hZ hown (host := "") (Or.inl (hw _ (List.mem_of_getElem? (i := 20) rfl))) Via.refl e2 S1 (g := (mkF m 40 #[.val (.ref oo), .val (.int c1)] [])) rfl (hb hby d1_40)
    obtain ⟨fs, hr, hrun, hended, hW, hsame⟩ := X4.leave (v := some (.ref w)) (fun h => by rw [Bd.returns] at h; cases h)
    refine ⟨_, _, pre0 _ ?_, hrun, hended, _, _, rfl, ?_, ⟨_, rfl⟩, hW, hsame.mono (by decide) (by decide)⟩
    · show Steps p.tables e below (s₁.setTop (mkF m 0 #[.val (.ref oo), .val (.int c1)] [])) _
      refine st1 _ ?_
      show Steps p.tables e below (T1.setTop (mkF m 3 #[.val (.ref oo), .val (.int c1)] [(.ref aS)])) _
      refine XS.aloadN X1.here hx rfl (hb hby d1_3) rfl rfl ?_
      show Steps p.tables e below (T1.setTop (mkF m 4 #[.val (.ref oo), .val (.int c1)] [(.ref oo), (.ref aS)])) _
      refine st2.trans ?_
      show Steps p.tables e below (T2.setTop (mkF m 7 #[.val (.ref oo), .val (.int c1)] [(.int (0 : Int32)), (.ref aS)])) _
      refine X2.iaload hx (j := (0 : Int32)) (v := (.int (1 : Int32))) (by rw [e2]; exact Arcl3.1) (State.isArrayOf_alike hZ.alike Arcl3.2.1) Arcl3.2.2 hincl3 hatcl3 (g := (mkF m 7 #[.val (.ref oo), .val (.int c1)] [(.int (0 : Int32)), (.ref aS)])) rfl rfl (hb hby d1_7) _ ?_
      show Steps p.tables e below (T2.setTop (mkF m 8 #[.val (.ref oo), .val (.int c1)] [(.int (1 : Int32))])) _
      refine X2.tableswitchIn hx (g := (mkF m 8 #[.val (.ref oo), .val (.int c1)] [(.int (1 : Int32))])) rfl rfl (hb hby d1_8) (by decide) (off := 28) (by decide) (by show (0 : Int) ≤ ((8 : Nat) : Int) + 28; decide) _ ?_
      show Steps p.tables e below (T2.setTop (mkF m 36 #[.val (.ref oo), .val (.int c1)] [])) _
      refine XS.iloadN X2.here hx rfl (hb hby d1_36) rfl ?_
      show Steps p.tables e below (T2.setTop (mkF m 37 #[.val (.ref oo), .val (.int c1)] [(.int c1)])) _
      refine XS.ifNo X2.here hx rfl (hb hby d1_37) rfl ((if0 _ _).trans (feq d1).1) ?_
      show Steps p.tables e below (T2.setTop (mkF m 40 #[.val (.ref oo), .val (.int c1)] [])) _
      refine st4 _ ?_
      show Steps p.tables e below (T4.setTop (mkF m 43 #[.val (.ref oo), .val (.int c1)] [(.ref w)])) _
      refine XS.goto X4.here hx rfl (pc0 := 43) (pc' := 49) rfl (hb hby d1_43) (by decide) (by decide) ?_
      show Steps p.tables e below (T4.setTop (mkF m 49 #[.val (.ref oo), .val (.int c1)] [(.ref w)])) _
      jvm_step X4.here [X4.here.top, hx, (hb hby d1_49), X4.method', Bd.returns, Value.isRef, FieldType.isReference]
      first | (intro acts; rw [hr _ acts rfl rfl rfl]) | rw [hr _ _ rfl rfl rfl]
      exact Steps.refl _
    · show Q_rm1 Z oo c1 aS kS w h0 n0 _ T4.heap _
      rw [e4]
      exact ⟨rfl, N2, rfl⟩
  · obtain ⟨T5, X5, e5, st5⟩ := getS2 X0 hx hZ hown (host := "") (Or.inl (hw _ (List.mem_of_getElem? (i := 8) rfl))) Via.refl e0 SM (g := (mkF m 0 #[.val (.ref oo), .val (.int c1)] [])) rfl (hb hby d1_0)
    obtain ⟨cq6, kq6, q6a, q6b, q6c⟩ := isOf hZ e5 E
    obtain ⟨_, _, ⟨T6, L6, k6, n6⟩, -, X6, ⟨Lc6, hQ6, l6, y6, z6⟩, st6⟩ := X5.virtualBackUp hx (owner := "java/lang/Enum") (x := (⟨"com/example/modfin/modfin/core/Outcome", "ordinal", "()I"⟩ : MethodName)) (y := (⟨"java/lang/Enum", "ordinal", "()I"⟩ : MethodName)) hown (mvT hZ (hw _ (List.mem_of_getElem? (i := 11) rfl))) (mvT hZ (hw _ (List.mem_of_getElem? (i := 12) rfl))) (mvT hZ (hw _ (List.mem_of_getElem? (i := 13) rfl))) (by decide) (mvT hZ (hw _ (List.mem_of_getElem? (i := 15) rfl))) (mvT hZ (hw _ (List.mem_of_getElem? (i := 14) rfl))) (backOf (W := 1) (rm2 l Z a0 hw [] oo (0 : Int32) h0 n0 (Nat.le_trans Z0 (Keep.refl h0 []).1) F) hZ (hw _ (List.mem_of_getElem? (i := 17) rfl)) (hw _ (List.mem_of_getElem? (i := 16) rfl)) (by decide) (by decide)) q6a q6c (g := (mkF m 4 #[.val (.ref oo), .val (.int c1)] [(.ref oo), (.ref aS)])) rfl (by rw [hml]; rfl) (Steps.refl _) (argsL := []) (rest := [(.ref aS)]) (lenOf pd_0 rfl) rfl (by show 2 * 0 + _ ≤ _; exact Nat.le_of_eq rfl) (hb hby d1_4) (fun _ _ => ⟨rfl, e5, (by decide : 0 + 0 ≤ _), (by decide : 0 + 0 ≤ _)⟩)
    dsimp only [Pt.U, Pt.locs, Pt.cells, Pt.slots] at X6 l6 y6 z6 st6 hQ6
    subst l6 y6 z6
    obtain ⟨rfl, N6q, eq6⟩ := hQ6
    have N6 := Fr.app N0 N6q
    have e6 : T6.heap = h0 := eq6
    obtain ⟨cl7, Arcl7, qcl7, Scl7, Ncl7, Hcl7, Gcl7⟩ := VS
    have hincl7 : ¬ ((0 : Int32) < 0 ∨ cl7.slots.size ≤ ((0 : Int32)).toNatClampNeg) := inb_of Scl7 ⟨by decide, by decide⟩
    have hatcl7 : cl7.slots[((0 : Int32)).toNatClampNeg]? = some (.int (1 : Int32)) := Hcl7.at hincl7 rfl
    obtain ⟨T8, X8, e8, st8⟩ := getS2 X6 hx hZ hown (host := "") (Or.inl (hw _ (List.mem_of_getElem? (i := 27) rfl))) Via.refl e6 S1 (g := (mkF m 46 #[.val (.ref oo), .val (.int c1)] [])) rfl (hb hby d1_46)
    obtain ⟨fs, hr, hrun, hended, hW, hsame⟩ := X8.leave (v := some (.ref w)) (fun h => by rw [Bd.returns] at h; cases h)
    refine ⟨_, _, pre0 _ ?_, hrun, hended, _, _, rfl, ?_, ⟨_, rfl⟩, hW, hsame.mono (by decide) (by decide)⟩
    · show Steps p.tables e below (s₁.setTop (mkF m 0 #[.val (.ref oo), .val (.int c1)] [])) _
      refine st5 _ ?_
      show Steps p.tables e below (T5.setTop (mkF m 3 #[.val (.ref oo), .val (.int c1)] [(.ref aS)])) _
      refine XS.aloadN X5.here hx rfl (hb hby d1_3) rfl rfl ?_
      show Steps p.tables e below (T5.setTop (mkF m 4 #[.val (.ref oo), .val (.int c1)] [(.ref oo), (.ref aS)])) _
      refine st6.trans ?_
      show Steps p.tables e below (T6.setTop (mkF m 7 #[.val (.ref oo), .val (.int c1)] [(.int (0 : Int32)), (.ref aS)])) _
      refine X6.iaload hx (j := (0 : Int32)) (v := (.int (1 : Int32))) (by rw [e6]; exact Arcl7.1) (State.isArrayOf_alike hZ.alike Arcl7.2.1) Arcl7.2.2 hincl7 hatcl7 (g := (mkF m 7 #[.val (.ref oo), .val (.int c1)] [(.int (0 : Int32)), (.ref aS)])) rfl rfl (hb hby d1_7) _ ?_
      show Steps p.tables e below (T6.setTop (mkF m 8 #[.val (.ref oo), .val (.int c1)] [(.int (1 : Int32))])) _
      refine X6.tableswitchIn hx (g := (mkF m 8 #[.val (.ref oo), .val (.int c1)] [(.int (1 : Int32))])) rfl rfl (hb hby d1_8) (by decide) (off := 28) (by decide) (by show (0 : Int) ≤ ((8 : Nat) : Int) + 28; decide) _ ?_
      show Steps p.tables e below (T6.setTop (mkF m 36 #[.val (.ref oo), .val (.int c1)] [])) _
      refine XS.iloadN X6.here hx rfl (hb hby d1_36) rfl ?_
      show Steps p.tables e below (T6.setTop (mkF m 37 #[.val (.ref oo), .val (.int c1)] [(.int c1)])) _
      refine XS.ifYes X6.here hx rfl (pc0 := 37) (pc' := 46) rfl (hb hby d1_37) rfl ((if0 _ _).trans (teq d1).1) (by decide) (by decide) ?_
      show Steps p.tables e below (T6.setTop (mkF m 46 #[.val (.ref oo), .val (.int c1)] [])) _
      refine st8 _ ?_
      show Steps p.tables e below (T8.setTop (mkF m 49 #[.val (.ref oo), .val (.int c1)] [(.ref w)])) _
      jvm_step X8.here [X8.here.top, hx, (hb hby d1_49), X8.method', Bd.returns, Value.isRef, FieldType.isReference]
      first | (intro acts; rw [hr _ acts rfl rfl rfl]) | rw [hr _ _ rfl rfl rfl]
      exact Steps.refl _
    · show Q_rm1 Z oo c1 aS kS w h0 n0 _ T8.heap _
      rw [e8]
      exact ⟨rfl, N6, rfl⟩
  · obtain ⟨T9, X9, e9, st9⟩ := getS2 X0 hx hZ hown (host := "") (Or.inl (hw _ (List.mem_of_getElem? (i := 8) rfl))) Via.refl e0 SM (g := (mkF m 0 #[.val (.ref oo), .val (.int c1)] [])) rfl (hb hby d1_0)
    obtain ⟨cq10, kq10, q10a, q10b, q10c⟩ := isOf hZ e9 E
    obtain ⟨_, _, ⟨T10, L10, k10, n10⟩, -, X10, ⟨Lc10, hQ10, l10, y10, z10⟩, st10⟩ := X9.virtualBackUp hx (owner := "java/lang/Enum") (x := (⟨"com/example/modfin/modfin/core/Outcome", "ordinal", "()I"⟩ : MethodName)) (y := (⟨"java/lang/Enum", "ordinal", "()I"⟩ : MethodName)) hown (mvT hZ (hw _ (List.mem_of_getElem? (i := 11) rfl))) (mvT hZ (hw _ (List.mem_of_getElem? (i := 12) rfl))) (mvT hZ (hw _ (List.mem_of_getElem? (i := 13) rfl))) (by decide) (mvT hZ (hw _ (List.mem_of_getElem? (i := 15) rfl))) (mvT hZ (hw _ (List.mem_of_getElem? (i := 14) rfl))) (backOf (W := 1) (rm2 l Z a0 hw [] oo (1 : Int32) h0 n0 (Nat.le_trans Z0 (Keep.refl h0 []).1) F) hZ (hw _ (List.mem_of_getElem? (i := 17) rfl)) (hw _ (List.mem_of_getElem? (i := 16) rfl)) (by decide) (by decide)) q10a q10c (g := (mkF m 4 #[.val (.ref oo), .val (.int c1)] [(.ref oo), (.ref aS)])) rfl (by rw [hml]; rfl) (Steps.refl _) (argsL := []) (rest := [(.ref aS)]) (lenOf pd_0 rfl) rfl (by show 2 * 0 + _ ≤ _; exact Nat.le_of_eq rfl) (hb hby d1_4) (fun _ _ => ⟨rfl, e9, (by decide : 0 + 0 ≤ _), (by decide : 0 + 0 ≤ _)⟩)
    dsimp only [Pt.U, Pt.locs, Pt.cells, Pt.slots] at X10 l10 y10 z10 st10 hQ10
    subst l10 y10 z10
    obtain ⟨rfl, N10q, eq10⟩ := hQ10
    have N10 := Fr.app N0 N10q
    have e10 : T10.heap = h0 := eq10
    obtain ⟨cl11, Arcl11, qcl11, Scl11, Ncl11, Hcl11, Gcl11⟩ := VS
    have hincl11 : ¬ ((1 : Int32) < 0 ∨ cl11.slots.size ≤ ((1 : Int32)).toNatClampNeg) := inb_of Scl11 ⟨by decide, by decide⟩
    have hatcl11 : cl11.slots[((1 : Int32)).toNatClampNeg]? = some (.int (2 : Int32)) := Hcl11.at hincl11 rfl
    obtain ⟨T12, X12, e12, st12⟩ := getS2 X10 hx hZ hown (host := "") (Or.inl (hw _ (List.mem_of_getElem? (i := 42) rfl))) Via.refl e10 S1 (g := (mkF m 54 #[.val (.ref oo), .val (.int c1)] [])) rfl (hb hby d1_54)
    obtain ⟨fs, hr, hrun, hended, hW, hsame⟩ := X12.leave (v := some (.ref w)) (fun h => by rw [Bd.returns] at h; cases h)
    refine ⟨_, _, pre0 _ ?_, hrun, hended, _, _, rfl, ?_, ⟨_, rfl⟩, hW, hsame.mono (by decide) (by decide)⟩
    · show Steps p.tables e below (s₁.setTop (mkF m 0 #[.val (.ref oo), .val (.int c1)] [])) _
      refine st9 _ ?_
      show Steps p.tables e below (T9.setTop (mkF m 3 #[.val (.ref oo), .val (.int c1)] [(.ref aS)])) _
      refine XS.aloadN X9.here hx rfl (hb hby d1_3) rfl rfl ?_
      show Steps p.tables e below (T9.setTop (mkF m 4 #[.val (.ref oo), .val (.int c1)] [(.ref oo), (.ref aS)])) _
      refine st10.trans ?_
      show Steps p.tables e below (T10.setTop (mkF m 7 #[.val (.ref oo), .val (.int c1)] [(.int (1 : Int32)), (.ref aS)])) _
      refine X10.iaload hx (j := (1 : Int32)) (v := (.int (2 : Int32))) (by rw [e10]; exact Arcl11.1) (State.isArrayOf_alike hZ.alike Arcl11.2.1) Arcl11.2.2 hincl11 hatcl11 (g := (mkF m 7 #[.val (.ref oo), .val (.int c1)] [(.int (1 : Int32)), (.ref aS)])) rfl rfl (hb hby d1_7) _ ?_
      show Steps p.tables e below (T10.setTop (mkF m 8 #[.val (.ref oo), .val (.int c1)] [(.int (2 : Int32))])) _
      refine X10.tableswitchIn hx (g := (mkF m 8 #[.val (.ref oo), .val (.int c1)] [(.int (2 : Int32))])) rfl rfl (hb hby d1_8) (by decide) (off := 42) (by decide) (by show (0 : Int) ≤ ((8 : Nat) : Int) + 42; decide) _ ?_
      show Steps p.tables e below (T10.setTop (mkF m 50 #[.val (.ref oo), .val (.int c1)] [])) _
      refine XS.iloadN X10.here hx rfl (hb hby d1_50) rfl ?_
      show Steps p.tables e below (T10.setTop (mkF m 51 #[.val (.ref oo), .val (.int c1)] [(.int c1)])) _
      refine XS.ifNo X10.here hx rfl (hb hby d1_51) rfl ((if0 _ _).trans (feq d1).1) ?_
      show Steps p.tables e below (T10.setTop (mkF m 54 #[.val (.ref oo), .val (.int c1)] [])) _
      refine st12 _ ?_
      show Steps p.tables e below (T12.setTop (mkF m 57 #[.val (.ref oo), .val (.int c1)] [(.ref w)])) _
      refine XS.goto X12.here hx rfl (pc0 := 57) (pc' := 63) rfl (hb hby d1_57) (by decide) (by decide) ?_
      show Steps p.tables e below (T12.setTop (mkF m 63 #[.val (.ref oo), .val (.int c1)] [(.ref w)])) _
      jvm_step X12.here [X12.here.top, hx, (hb hby d1_63), X12.method', Bd.returns, Value.isRef, FieldType.isReference]
      first | (intro acts; rw [hr _ acts rfl rfl rfl]) | rw [hr _ _ rfl rfl rfl]
      exact Steps.refl _
    · show Q_rm1 Z oo c1 aS kS w h0 n0 _ T12.heap _
      rw [e12]
      exact ⟨rfl, N10, rfl⟩
  · obtain ⟨T13, X13, e13, st13⟩ := getS2 X0 hx hZ hown (host := "") (Or.inl (hw _ (List.mem_of_getElem? (i := 8) rfl))) Via.refl e0 SM (g := (mkF m 0 #[.val (.ref oo), .val (.int c1)] [])) rfl (hb hby d1_0)
    obtain ⟨cq14, kq14, q14a, q14b, q14c⟩ := isOf hZ e13 E
    obtain ⟨_, _, ⟨T14, L14, k14, n14⟩, -, X14, ⟨Lc14, hQ14, l14, y14, z14⟩, st14⟩ := X13.virtualBackUp hx (owner := "java/lang/Enum") (x := (⟨"com/example/modfin/modfin/core/Outcome", "ordinal", "()I"⟩ : MethodName)) (y := (⟨"java/lang/Enum", "ordinal", "()I"⟩ : MethodName)) hown (mvT hZ (hw _ (List.mem_of_getElem? (i := 11) rfl))) (mvT hZ (hw _ (List.mem_of_getElem? (i := 12) rfl))) (mvT hZ (hw _ (List.mem_of_getElem? (i := 13) rfl))) (by decide) (mvT hZ (hw _ (List.mem_of_getElem? (i := 15) rfl))) (mvT hZ (hw _ (List.mem_of_getElem? (i := 14) rfl))) (backOf (W := 1) (rm2 l Z a0 hw [] oo (1 : Int32) h0 n0 (Nat.le_trans Z0 (Keep.refl h0 []).1) F) hZ (hw _ (List.mem_of_getElem? (i := 17) rfl)) (hw _ (List.mem_of_getElem? (i := 16) rfl)) (by decide) (by decide)) q14a q14c (g := (mkF m 4 #[.val (.ref oo), .val (.int c1)] [(.ref oo), (.ref aS)])) rfl (by rw [hml]; rfl) (Steps.refl _) (argsL := []) (rest := [(.ref aS)]) (lenOf pd_0 rfl) rfl (by show 2 * 0 + _ ≤ _; exact Nat.le_of_eq rfl) (hb hby d1_4) (fun _ _ => ⟨rfl, e13, (by decide : 0 + 0 ≤ _), (by decide : 0 + 0 ≤ _)⟩)
    dsimp only [Pt.U, Pt.locs, Pt.cells, Pt.slots] at X14 l14 y14 z14 st14 hQ14
    subst l14 y14 z14
    obtain ⟨rfl, N14q, eq14⟩ := hQ14
    have N14 := Fr.app N0 N14q
    have e14 : T14.heap = h0 := eq14
    obtain ⟨cl15, Arcl15, qcl15, Scl15, Ncl15, Hcl15, Gcl15⟩ := VS
    have hincl15 : ¬ ((1 : Int32) < 0 ∨ cl15.slots.size ≤ ((1 : Int32)).toNatClampNeg) := inb_of Scl15 ⟨by decide, by decide⟩
    have hatcl15 : cl15.slots[((1 : Int32)).toNatClampNeg]? = some (.int (2 : Int32)) := Hcl15.at hincl15 rfl
    obtain ⟨T16, X16, e16, st16⟩ := getS2 X14 hx hZ hown (host := "") (Or.inl (hw _ (List.mem_of_getElem? (i := 46) rfl))) Via.refl e14 S1 (g := (mkF m 60 #[.val (.ref oo), .val (.int c1)] [])) rfl (hb hby d1_60)
    obtain ⟨fs, hr, hrun, hended, hW, hsame⟩ := X16.leave (v := some (.ref w)) (fun h => by rw [Bd.returns] at h; cases h)
    refine ⟨_, _, pre0 _ ?_, hrun, hended, _, _, rfl, ?_, ⟨_, rfl⟩, hW, hsame.mono (by decide) (by decide)⟩
    · show Steps p.tables e below (s₁.setTop (mkF m 0 #[.val (.ref oo), .val (.int c1)] [])) _
      refine st13 _ ?_
      show Steps p.tables e below (T13.setTop (mkF m 3 #[.val (.ref oo), .val (.int c1)] [(.ref aS)])) _
      refine XS.aloadN X13.here hx rfl (hb hby d1_3) rfl rfl ?_
      show Steps p.tables e below (T13.setTop (mkF m 4 #[.val (.ref oo), .val (.int c1)] [(.ref oo), (.ref aS)])) _
      refine st14.trans ?_
      show Steps p.tables e below (T14.setTop (mkF m 7 #[.val (.ref oo), .val (.int c1)] [(.int (1 : Int32)), (.ref aS)])) _
      refine X14.iaload hx (j := (1 : Int32)) (v := (.int (2 : Int32))) (by rw [e14]; exact Arcl15.1) (State.isArrayOf_alike hZ.alike Arcl15.2.1) Arcl15.2.2 hincl15 hatcl15 (g := (mkF m 7 #[.val (.ref oo), .val (.int c1)] [(.int (1 : Int32)), (.ref aS)])) rfl rfl (hb hby d1_7) _ ?_
      show Steps p.tables e below (T14.setTop (mkF m 8 #[.val (.ref oo), .val (.int c1)] [(.int (2 : Int32))])) _
      refine X14.tableswitchIn hx (g := (mkF m 8 #[.val (.ref oo), .val (.int c1)] [(.int (2 : Int32))])) rfl rfl (hb hby d1_8) (by decide) (off := 42) (by decide) (by show (0 : Int) ≤ ((8 : Nat) : Int) + 42; decide) _ ?_
      show Steps p.tables e below (T14.setTop (mkF m 50 #[.val (.ref oo), .val (.int c1)] [])) _
      refine XS.iloadN X14.here hx rfl (hb hby d1_50) rfl ?_
      show Steps p.tables e below (T14.setTop (mkF m 51 #[.val (.ref oo), .val (.int c1)] [(.int c1)])) _
      refine XS.ifYes X14.here hx rfl (pc0 := 51) (pc' := 60) rfl (hb hby d1_51) rfl ((if0 _ _).trans (teq d1).1) (by decide) (by decide) ?_
      show Steps p.tables e below (T14.setTop (mkF m 60 #[.val (.ref oo), .val (.int c1)] [])) _
      refine st16 _ ?_
      show Steps p.tables e below (T16.setTop (mkF m 63 #[.val (.ref oo), .val (.int c1)] [(.ref w)])) _
      jvm_step X16.here [X16.here.top, hx, (hb hby d1_63), X16.method', Bd.returns, Value.isRef, FieldType.isReference]
      first | (intro acts; rw [hr _ acts rfl rfl rfl]) | rw [hr _ _ rfl rfl rfl]
      exact Steps.refl _
    · show Q_rm1 Z oo c1 aS kS w h0 n0 _ T16.heap _
      rw [e16]
      exact ⟨rfl, N14, rfl⟩
  · obtain ⟨T17, X17, e17, st17⟩ := getS2 X0 hx hZ hown (host := "") (Or.inl (hw _ (List.mem_of_getElem? (i := 8) rfl))) Via.refl e0 SM (g := (mkF m 0 #[.val (.ref oo), .val (.int c1)] [])) rfl (hb hby d1_0)
    obtain ⟨cq18, kq18, q18a, q18b, q18c⟩ := isOf hZ e17 E
    obtain ⟨_, _, ⟨T18, L18, k18, n18⟩, -, X18, ⟨Lc18, hQ18, l18, y18, z18⟩, st18⟩ := X17.virtualBackUp hx (owner := "java/lang/Enum") (x := (⟨"com/example/modfin/modfin/core/Outcome", "ordinal", "()I"⟩ : MethodName)) (y := (⟨"java/lang/Enum", "ordinal", "()I"⟩ : MethodName)) hown (mvT hZ (hw _ (List.mem_of_getElem? (i := 11) rfl))) (mvT hZ (hw _ (List.mem_of_getElem? (i := 12) rfl))) (mvT hZ (hw _ (List.mem_of_getElem? (i := 13) rfl))) (by decide) (mvT hZ (hw _ (List.mem_of_getElem? (i := 15) rfl))) (mvT hZ (hw _ (List.mem_of_getElem? (i := 14) rfl))) (backOf (W := 1) (rm2 l Z a0 hw [] oo (2 : Int32) h0 n0 (Nat.le_trans Z0 (Keep.refl h0 []).1) F) hZ (hw _ (List.mem_of_getElem? (i := 17) rfl)) (hw _ (List.mem_of_getElem? (i := 16) rfl)) (by decide) (by decide)) q18a q18c (g := (mkF m 4 #[.val (.ref oo), .val (.int c1)] [(.ref oo), (.ref aS)])) rfl (by rw [hml]; rfl) (Steps.refl _) (argsL := []) (rest := [(.ref aS)]) (lenOf pd_0 rfl) rfl (by show 2 * 0 + _ ≤ _; exact Nat.le_of_eq rfl) (hb hby d1_4) (fun _ _ => ⟨rfl, e17, (by decide : 0 + 0 ≤ _), (by decide : 0 + 0 ≤ _)⟩)
    dsimp only [Pt.U, Pt.locs, Pt.cells, Pt.slots] at X18 l18 y18 z18 st18 hQ18
    subst l18 y18 z18
    obtain ⟨rfl, N18q, eq18⟩ := hQ18
    have N18 := Fr.app N0 N18q
    have e18 : T18.heap = h0 := eq18
    obtain ⟨cl19, Arcl19, qcl19, Scl19, Ncl19, Hcl19, Gcl19⟩ := VS
    have hincl19 : ¬ ((2 : Int32) < 0 ∨ cl19.slots.size ≤ ((2 : Int32)).toNatClampNeg) := inb_of Scl19 ⟨by decide, by decide⟩
    have hatcl19 : cl19.slots[((2 : Int32)).toNatClampNeg]? = some (.int (3 : Int32)) := Hcl19.at hincl19 rfl
    obtain ⟨T20, X20, e20, st20⟩ := getS2 X18 hx hZ hown (host := "") (Or.inl (hw _ (List.mem_of_getElem? (i := 34) rfl))) Via.refl e18 S1 (g := (mkF m 64 #[.val (.ref oo), .val (.int c1)] [])) rfl (hb hby d1_64)
    obtain ⟨fs, hr, hrun, hended, hW, hsame⟩ := X20.leave (v := some (.ref w)) (fun h => by rw [Bd.returns] at h; cases h)
    refine ⟨_, _, pre0 _ ?_, hrun, hended, _, _, rfl, ?_, ⟨_, rfl⟩, hW, hsame.mono (by decide) (by decide)⟩
    · show Steps p.tables e below (s₁.setTop (mkF m 0 #[.val (.ref oo), .val (.int c1)] [])) _
      refine st17 _ ?_
      show Steps p.tables e below (T17.setTop (mkF m 3 #[.val (.ref oo), .val (.int c1)] [(.ref aS)])) _
      refine XS.aloadN X17.here hx rfl (hb hby d1_3) rfl rfl ?_
      show Steps p.tables e below (T17.setTop (mkF m 4 #[.val (.ref oo), .val (.int c1)] [(.ref oo), (.ref aS)])) _
      refine st18.trans ?_
      show Steps p.tables e below (T18.setTop (mkF m 7 #[.val (.ref oo), .val (.int c1)] [(.int (2 : Int32)), (.ref aS)])) _
      refine X18.iaload hx (j := (2 : Int32)) (v := (.int (3 : Int32))) (by rw [e18]; exact Arcl19.1) (State.isArrayOf_alike hZ.alike Arcl19.2.1) Arcl19.2.2 hincl19 hatcl19 (g := (mkF m 7 #[.val (.ref oo), .val (.int c1)] [(.int (2 : Int32)), (.ref aS)])) rfl rfl (hb hby d1_7) _ ?_
      show Steps p.tables e below (T18.setTop (mkF m 8 #[.val (.ref oo), .val (.int c1)] [(.int (3 : Int32))])) _
      refine X18.tableswitchIn hx (g := (mkF m 8 #[.val (.ref oo), .val (.int c1)] [(.int (3 : Int32))])) rfl rfl (hb hby d1_8) (by decide) (off := 56) (by decide) (by show (0 : Int) ≤ ((8 : Nat) : Int) + 56; decide) _ ?_
      show Steps p.tables e below (T18.setTop (mkF m 64 #[.val (.ref oo), .val (.int c1)] [])) _
      refine st20 _ ?_
      show Steps p.tables e below (T20.setTop (mkF m 67 #[.val (.ref oo), .val (.int c1)] [(.ref w)])) _
      jvm_step X20.here [X20.here.top, hx, (hb hby d1_67), X20.method', Bd.returns, Value.isRef, FieldType.isReference]
      first | (intro acts; rw [hr _ acts rfl rfl rfl]) | rw [hr _ _ rfl rfl rfl]
      exact Steps.refl _
    · show Q_rm1 Z oo c1 aS kS w h0 n0 _ T20.heap _
      rw [e20]
      exact ⟨rfl, N18, rfl⟩
  · obtain ⟨T21, X21, e21, st21⟩ := getS2 X0 hx hZ hown (host := "") (Or.inl (hw _ (List.mem_of_getElem? (i := 8) rfl))) Via.refl e0 SM (g := (mkF m 0 #[.val (.ref oo), .val (.int c1)] [])) rfl (hb hby d1_0)
    obtain ⟨cq22, kq22, q22a, q22b, q22c⟩ := isOf hZ e21 E
    obtain ⟨_, _, ⟨T22, L22, k22, n22⟩, -, X22, ⟨Lc22, hQ22, l22, y22, z22⟩, st22⟩ := X21.virtualBackUp hx (owner := "java/lang/Enum") (x := (⟨"com/example/modfin/modfin/core/Outcome", "ordinal", "()I"⟩ : MethodName)) (y := (⟨"java/lang/Enum", "ordinal", "()I"⟩ : MethodName)) hown (mvT hZ (hw _ (List.mem_of_getElem? (i := 11) rfl))) (mvT hZ (hw _ (List.mem_of_getElem? (i := 12) rfl))) (mvT hZ (hw _ (List.mem_of_getElem? (i := 13) rfl))) (by decide) (mvT hZ (hw _ (List.mem_of_getElem? (i := 15) rfl))) (mvT hZ (hw _ (List.mem_of_getElem? (i := 14) rfl))) (backOf (W := 1) (rm2 l Z a0 hw [] oo (3 : Int32) h0 n0 (Nat.le_trans Z0 (Keep.refl h0 []).1) F) hZ (hw _ (List.mem_of_getElem? (i := 17) rfl)) (hw _ (List.mem_of_getElem? (i := 16) rfl)) (by decide) (by decide)) q22a q22c (g := (mkF m 4 #[.val (.ref oo), .val (.int c1)] [(.ref oo), (.ref aS)])) rfl (by rw [hml]; rfl) (Steps.refl _) (argsL := []) (rest := [(.ref aS)]) (lenOf pd_0 rfl) rfl (by show 2 * 0 + _ ≤ _; exact Nat.le_of_eq rfl) (hb hby d1_4) (fun _ _ => ⟨rfl, e21, (by decide : 0 + 0 ≤ _), (by decide : 0 + 0 ≤ _)⟩)
    dsimp only [Pt.U, Pt.locs, Pt.cells, Pt.slots] at X22 l22 y22 z22 st22 hQ22
    subst l22 y22 z22
    obtain ⟨rfl, N22q, eq22⟩ := hQ22
    have N22 := Fr.app N0 N22q
    have e22 : T22.heap = h0 := eq22
    obtain ⟨cl23, Arcl23, qcl23, Scl23, Ncl23, Hcl23, Gcl23⟩ := VS
    have hincl23 : ¬ ((3 : Int32) < 0 ∨ cl23.slots.size ≤ ((3 : Int32)).toNatClampNeg) := inb_of Scl23 ⟨by decide, by decide⟩
    have hatcl23 : cl23.slots[((3 : Int32)).toNatClampNeg]? = some (.int (0 : Int32)) := Hcl23.at hincl23 rfl
    obtain ⟨T24, X24, e24, st24⟩ := getS2 X22 hx hZ hown (host := "") (Or.inl (hw _ (List.mem_of_getElem? (i := 36) rfl))) Via.refl e22 S1 (g := (mkF m 68 #[.val (.ref oo), .val (.int c1)] [])) rfl (hb hby d1_68)
    obtain ⟨fs, hr, hrun, hended, hW, hsame⟩ := X24.leave (v := some (.ref w)) (fun h => by rw [Bd.returns] at h; cases h)
    refine ⟨_, _, pre0 _ ?_, hrun, hended, _, _, rfl, ?_, ⟨_, rfl⟩, hW, hsame.mono (by decide) (by decide)⟩
    · show Steps p.tables e below (s₁.setTop (mkF m 0 #[.val (.ref oo), .val (.int c1)] [])) _
      refine st21 _ ?_
      show Steps p.tables e below (T21.setTop (mkF m 3 #[.val (.ref oo), .val (.int c1)] [(.ref aS)])) _
      refine XS.aloadN X21.here hx rfl (hb hby d1_3) rfl rfl ?_
      show Steps p.tables e below (T21.setTop (mkF m 4 #[.val (.ref oo), .val (.int c1)] [(.ref oo), (.ref aS)])) _
      refine st22.trans ?_
      show Steps p.tables e below (T22.setTop (mkF m 7 #[.val (.ref oo), .val (.int c1)] [(.int (3 : Int32)), (.ref aS)])) _
      refine X22.iaload hx (j := (3 : Int32)) (v := (.int (0 : Int32))) (by rw [e22]; exact Arcl23.1) (State.isArrayOf_alike hZ.alike Arcl23.2.1) Arcl23.2.2 hincl23 hatcl23 (g := (mkF m 7 #[.val (.ref oo), .val (.int c1)] [(.int (3 : Int32)), (.ref aS)])) rfl rfl (hb hby d1_7) _ ?_
      show Steps p.tables e below (T22.setTop (mkF m 8 #[.val (.ref oo), .val (.int c1)] [(.int (0 : Int32))])) _
      refine X22.tableswitchOut hx (g := (mkF m 8 #[.val (.ref oo), .val (.int c1)] [(.int (0 : Int32))])) rfl rfl (hb hby d1_8) (by decide) (by show (0 : Int) ≤ ((8 : Nat) : Int) + 60; decide) _ ?_
      show Steps p.tables e below (T22.setTop (mkF m 68 #[.val (.ref oo), .val (.int c1)] [])) _
      refine st24 _ ?_
      show Steps p.tables e below (T24.setTop (mkF m 71 #[.val (.ref oo), .val (.int c1)] [(.ref w)])) _
      jvm_step X24.here [X24.here.top, hx, (hb hby d1_71), X24.method', Bd.returns, Value.isRef, FieldType.isReference]
      first | (intro acts; rw [hr _ acts rfl rfl rfl]) | rw [hr _ _ rfl rfl rfl]
      exact Steps.refl _
    · show Q_rm1 Z oo c1 aS kS w h0 n0 _ T24.heap _
      rw [e24]
      exact ⟨rfl, N22, rfl⟩
theorem ef_3 (m : MethodId) (x0 : Addr) : entryFrame m #[(.ref x0)] 1 = mkF m 0 #[.val (.ref x0)] [] := by first | (simp [entryFrame, mkF, argsToLocals, Value.category]; done) | rfl
theorem d3_0 : decode prog_3_method_6_code 0 = .ok (.aload_n 0, 1) := by decide +kernel
theorem d3_1 : decode prog_3_method_6_code 1 = .ok (.getstatic 3, 3) := by decide +kernel
theorem d3_4 : decode prog_3_method_6_code 4 = .ok (.if_acmp .eq 10, 3) := by decide +kernel
theorem d3_14 : decode prog_3_method_6_code 14 = .ok (.iconst 1, 1) := by decide +kernel
theorem d3_15 : decode prog_3_method_6_code 15 = .ok (.goto 4, 3) := by decide +kernel
theorem d3_19 : decode prog_3_method_6_code 19 = .ok (.ireturn, 1) := by decide +kernel
theorem d3_7 : decode prog_3_method_6_code 7 = .ok (.aload_n 0, 1) := by decide +kernel
theorem d3_8 : decode prog_3_method_6_code 8 = .ok (.getstatic 10, 3) := by decide +kernel
theorem d3_11 : decode prog_3_method_6_code 11 = .ok (.if_acmp .ne 7, 3) := by decide +kernel
theorem d3_18 : decode prog_3_method_6_code 18 = .ok (.iconst 0, 1) := by decide +kernel
def Q_rm3 (Z : State) (a1 : Addr) (wI : Addr) (wC : Addr) (b : Int32) (h0 : Heap) (n0 : Nat) (v : Option Value) (h : Heap) (L : List Loc) : Prop := v = some (.int b) ∧ Fr n0 L ∧ h = h0
set_option maxRecDepth 65536 in
set_option maxHeartbeats 40000000 in
theorem rm3 (l : Launch) (Z : State) (a0 : Array Value) (hw : ∀ d ∈ tables_1, d.before a0 Z = true) (ws : List Jvm.Cond) (a1 : Addr) (wI : Addr) (wC : Addr) (b : Int32) (h0 : Heap) (n0 : Nat) (Z0 : n0 ≤ h0.size) (SI : Sta Z h0 "com/example/modfin/modfin/alloy/Verdict" "INSTANCE" "Lcom/example/modfin/modfin/alloy/Verdict;" (.ref wI)) (SC : Sta Z h0 "com/example/modfin/modfin/alloy/Verdict" "COUNTEREXAMPLE" "Lcom/example/modfin/modfin/alloy/Verdict;" (.ref wC)) (hbb : (a1 = wI ∧ b = (1 : Int32)) ∨ (¬ (a1 = wI) ∧ a1 = wC ∧ b = (1 : Int32)) ∨ (¬ (a1 = wI) ∧ ¬ (a1 = wC) ∧ b = (0 : Int32))) :
    MetFree l (⟨"com/example/modfin/modfin/alloy/Verdict", "isFound", "()Z"⟩ : MethodName) (head1 (Jvm.Cond.code (⟨"com/example/modfin/modfin/alloy/Verdict", "isFound", "()Z"⟩ : MethodName) prog_3_method_6_code 1 (some .boolean) :: ws) ({ frames := 0, cells := 0, slots := 0, locals := 0 } : Room)) (fun a U => a = #[(.ref a1)] ∧ Z.Warmed39 U.vm ∧ U.heap = h0) (fun _ _ _ _ _ => True) (fun _ U o U' => ∃ v L, o = .returned v ∧ Q_rm3 Z a1 wI wC b h0 n0 v U'.heap L ∧ FrameEnd U o U' L ({ frames := 0, cells := 0, slots := 0, locals := 0 } : Room).cells ({ frames := 0, cells := 0, slots := 0, locals := 0 } : Room).slots) := by
  refine MetFree.of_bodySF (plainFor_of_name pn_com_example_modfin_modfin_alloy_Verdict) hisR ?_
  intro p e s m args below meth c s₁ Bd hml0 hP hK
  obtain ⟨rfl, hZ, hh⟩ := hP
  have hx := Bd.exec
  have hby := Bd.bytes
  have hml : c.maxLocals = 1 := hml0
  have hown : s.vm.findClass "com/example/modfin/modfin/alloy/Verdict" = some m.cls := findClass_of_methodNamed Bd.named
  have hnm := (name_of_methodNamed Bd.named Bd.method).1
  have X0 : Stand p l e ({ frames := 0, cells := 0, slots := 0, locals := 0 } : Room) s m #[(.ref a1)] below meth c s₁ [] 0 0 := Stand.of_body Bd
  have e0 : s₁.heap = h0 := by rw [← hh, Bd.state]; rfl
  have N0 := Fr.nil n0
  have pre0 : ∀ t, Steps p.tables e below (s₁.setTop (mkF m 0 #[.val (.ref a1)] [])) t → Steps p.tables e below (s₁.setTop (entryFrame m #[(.ref a1)] 1)) t := fun t k => castTop (ef_3 m a1) k
  obtain ⟨S0, hS0⟩ : ∃ S, S = s₁.setTop (entryFrame m #[(.ref a1)] 1) := ⟨_, rfl⟩
  rw [← hS0] at pre0 ⊢
  rcases hbb with ⟨c1, c3⟩ | ⟨c1, c2, c3⟩ | ⟨c1, c2, c3⟩
  · obtain ⟨T1, X1, e1, st1⟩ := getS2 X0 hx hZ hown (host := "") (Or.inl (hw _ (List.mem_of_getElem? (i := 27) rfl))) Via.refl e0 SI (g := (mkF m 1 #[.val (.ref a1)] [(.ref a1)])) rfl (hb hby d3_1)
    obtain ⟨fs, hr, hrun, hended, hW, hsame⟩ := X1.leave (v := some (.int (1 : Int32))) (fun h => by rw [Bd.returns] at h; cases h)
    refine ⟨_, _, pre0 _ ?_, hrun, hended, _, _, rfl, ?_, ⟨_, rfl⟩, hW, hsame.mono (by decide) (by decide)⟩
    · show Steps p.tables e below (s₁.setTop (mkF m 0 #[.val (.ref a1)] [])) _
      refine XS.aloadN X0.here hx rfl (hb hby d3_0) rfl rfl ?_
      show Steps p.tables e below (s₁.setTop (mkF m 1 #[.val (.ref a1)] [(.ref a1)])) _
      refine st1 _ ?_
      show Steps p.tables e below (T1.setTop (mkF m 4 #[.val (.ref a1)] [(.ref wI), (.ref a1)])) _
      refine Jvm.RoadKit.acmp (g := (mkF m 4 #[.val (.ref a1)] [(.ref wI), (.ref a1)])) X1 hx rfl rfl rfl (pc0 := 4) (pc' := 14) (same := true) rfl (hb hby d3_4) rfl (decide_eq_true (congrArg Value.ref c1)) (by decide) (by decide) ?_
      show Steps p.tables e below (T1.setTop (mkF m 14 #[.val (.ref a1)] [])) _
      refine XS.iconst X1.here hx rfl (hb hby d3_14) ?_
      show Steps p.tables e below (T1.setTop (mkF m 15 #[.val (.ref a1)] [(.int (1 : Int32))])) _
      refine XS.goto X1.here hx rfl (pc0 := 15) (pc' := 19) rfl (hb hby d3_15) (by decide) (by decide) ?_
      show Steps p.tables e below (T1.setTop (mkF m 19 #[.val (.ref a1)] [(.int (1 : Int32))])) _
      exact retN X1 hx (t := .boolean) Bd.returns (by simp) (hb hby d3_19) hr
    · show Q_rm3 Z a1 wI wC b h0 n0 _ T1.heap _
      rw [e1]
      exact ⟨(by rw [c3]), N0, rfl⟩
  · obtain ⟨T2, X2, e2, st2⟩ := getS2 X0 hx hZ hown (host := "") (Or.inl (hw _ (List.mem_of_getElem? (i := 27) rfl))) Via.refl e0 SI (g := (mkF m 1 #[.val (.ref a1)] [(.ref a1)])) rfl (hb hby d3_1)
    obtain ⟨T3, X3, e3, st3⟩ := getS2 X2 hx hZ hown (host := "") (Or.inl (hw _ (List.mem_of_getElem? (i := 20) rfl))) Via.refl e2 SC (g := (mkF m 8 #[.val (.ref a1)] [(.ref a1)])) rfl (hb hby d3_8)
    obtain ⟨fs, hr, hrun, hended, hW, hsame⟩ := X3.leave (v := some (.int (1 : Int32))) (fun h => by rw [Bd.returns] at h; cases h)
    refine ⟨_, _, pre0 _ ?_, hrun, hended, _, _, rfl, ?_, ⟨_, rfl⟩, hW, hsame.mono (by decide) (by decide)⟩
    · show Steps p.tables e below (s₁.setTop (mkF m 0 #[.val (.ref a1)] [])) _
      refine XS.aloadN X0.here hx rfl (hb hby d3_0) rfl rfl ?_
      show Steps p.tables e below (s₁.setTop (mkF m 1 #[.val (.ref a1)] [(.ref a1)])) _
      refine st2 _ ?_
      show Steps p.tables e below (T2.setTop (mkF m 4 #[.val (.ref a1)] [(.ref wI), (.ref a1)])) _
      refine Jvm.RoadKit.acmp (g := (mkF m 4 #[.val (.ref a1)] [(.ref wI), (.ref a1)])) X2 hx rfl rfl rfl (pc0 := 4) (pc' := 7) (same := false) rfl (hb hby d3_4) rfl (decide_eq_false fun q => c1 (Value.ref.inj q)) (by decide) (by decide) ?_
      show Steps p.tables e below (T2.setTop (mkF m 7 #[.val (.ref a1)] [])) _
      refine XS.aloadN X2.here hx rfl (hb hby d3_7) rfl rfl ?_
      show Steps p.tables e below (T2.setTop (mkF m 8 #[.val (.ref a1)] [(.ref a1)])) _
      refine st3 _ ?_
      show Steps p.tables e below (T3.setTop (mkF m 11 #[.val (.ref a1)] [(.ref wC), (.ref a1)])) _
      refine Jvm.RoadKit.acmp (g := (mkF m 11 #[.val (.ref a1)] [(.ref wC), (.ref a1)])) X3 hx rfl rfl rfl (pc0 := 11) (pc' := 14) (same := true) rfl (hb hby d3_11) rfl (decide_eq_true (congrArg Value.ref c2)) (by decide) (by decide) ?_
      show Steps p.tables e below (T3.setTop (mkF m 14 #[.val (.ref a1)] [])) _
      refine XS.iconst X3.here hx rfl (hb hby d3_14) ?_
      show Steps p.tables e below (T3.setTop (mkF m 15 #[.val (.ref a1)] [(.int (1 : Int32))])) _
      refine XS.goto X3.here hx rfl (pc0 := 15) (pc' := 19) rfl (hb hby d3_15) (by decide) (by decide) ?_
      show Steps p.tables e below (T3.setTop (mkF m 19 #[.val (.ref a1)] [(.int (1 : Int32))])) _
      exact retN X3 hx (t := .boolean) Bd.returns (by simp) (hb hby d3_19) hr
    · show Q_rm3 Z a1 wI wC b h0 n0 _ T3.heap _
      rw [e3]
      exact ⟨(by rw [c3]), N0, rfl⟩
  · obtain ⟨T4, X4, e4, st4⟩ := getS2 X0 hx hZ hown (host := "") (Or.inl (hw _ (List.mem_of_getElem? (i := 27) rfl))) Via.refl e0 SI (g := (mkF m 1 #[.val (.ref a1)] [(.ref a1)])) rfl (hb hby d3_1)
    obtain ⟨T5, X5, e5, st5⟩ := getS2 X4 hx hZ hown (host := "") (Or.inl (hw _ (List.mem_of_getElem? (i := 20) rfl))) Via.refl e4 SC (g := (mkF m 8 #[.val (.ref a1)] [(.ref a1)])) rfl (hb hby d3_8)
    obtain ⟨fs, hr, hrun, hended, hW, hsame⟩ := X5.leave (v := some (.int (0 : Int32))) (fun h => by rw [Bd.returns] at h; cases h)
    refine ⟨_, _, pre0 _ ?_, hrun, hended, _, _, rfl, ?_, ⟨_, rfl⟩, hW, hsame.mono (by decide) (by decide)⟩
    · show Steps p.tables e below (s₁.setTop (mkF m 0 #[.val (.ref a1)] [])) _
      refine XS.aloadN X0.here hx rfl (hb hby d3_0) rfl rfl ?_
      show Steps p.tables e below (s₁.setTop (mkF m 1 #[.val (.ref a1)] [(.ref a1)])) _
      refine st4 _ ?_
      show Steps p.tables e below (T4.setTop (mkF m 4 #[.val (.ref a1)] [(.ref wI), (.ref a1)])) _
      refine Jvm.RoadKit.acmp (g := (mkF m 4 #[.val (.ref a1)] [(.ref wI), (.ref a1)])) X4 hx rfl rfl rfl (pc0 := 4) (pc' := 7) (same := false) rfl (hb hby d3_4) rfl (decide_eq_false fun q => c1 (Value.ref.inj q)) (by decide) (by decide) ?_
      show Steps p.tables e below (T4.setTop (mkF m 7 #[.val (.ref a1)] [])) _
      refine XS.aloadN X4.here hx rfl (hb hby d3_7) rfl rfl ?_
      show Steps p.tables e below (T4.setTop (mkF m 8 #[.val (.ref a1)] [(.ref a1)])) _
      refine st5 _ ?_
      show Steps p.tables e below (T5.setTop (mkF m 11 #[.val (.ref a1)] [(.ref wC), (.ref a1)])) _
      refine Jvm.RoadKit.acmp (g := (mkF m 11 #[.val (.ref a1)] [(.ref wC), (.ref a1)])) X5 hx rfl rfl rfl (pc0 := 11) (pc' := 18) (same := false) rfl (hb hby d3_11) rfl (decide_eq_false fun q => c2 (Value.ref.inj q)) (by decide) (by decide) ?_
      show Steps p.tables e below (T5.setTop (mkF m 18 #[.val (.ref a1)] [])) _
      refine XS.iconst X5.here hx rfl (hb hby d3_18) ?_
      show Steps p.tables e below (T5.setTop (mkF m 19 #[.val (.ref a1)] [(.int (0 : Int32))])) _
      exact retN X5 hx (t := .boolean) Bd.returns (by simp) (hb hby d3_19) hr
    · show Q_rm3 Z a1 wI wC b h0 n0 _ T5.heap _
      rw [e5]
      exact ⟨(by rw [c3]), N0, rfl⟩
theorem ef_4 (m : MethodId) (x0 : Addr) : entryFrame m #[(.ref x0)] 1 = mkF m 0 #[.val (.ref x0)] [] := by first | (simp [entryFrame, mkF, argsToLocals, Value.category]; done) | rfl
theorem d4_0 : decode prog_3_method_5_code 0 = .ok (.aload_n 0, 1) := by decide +kernel
theorem d4_1 : decode prog_3_method_5_code 1 = .ok (.getstatic 16, 3) := by decide +kernel
theorem d4_4 : decode prog_3_method_5_code 4 = .ok (.if_acmp .eq 14, 3) := by decide +kernel
theorem d4_7 : decode prog_3_method_5_code 7 = .ok (.aload_n 0, 1) := by decide +kernel
theorem d4_8 : decode prog_3_method_5_code 8 = .ok (.getstatic 19, 3) := by decide +kernel
theorem d4_11 : decode prog_3_method_5_code 11 = .ok (.if_acmp .eq 7, 3) := by decide +kernel
theorem d4_14 : decode prog_3_method_5_code 14 = .ok (.iconst 1, 1) := by decide +kernel
theorem d4_15 : decode prog_3_method_5_code 15 = .ok (.goto 4, 3) := by decide +kernel
theorem d4_19 : decode prog_3_method_5_code 19 = .ok (.ireturn, 1) := by decide +kernel
def Q_rm4 (Z : State) (a1 : Addr) (wT : Addr) (wU : Addr) (h0 : Heap) (n0 : Nat) (v : Option Value) (h : Heap) (L : List Loc) : Prop := v = some (.int 1) ∧ Fr n0 L ∧ h = h0
set_option maxRecDepth 65536 in
set_option maxHeartbeats 40000000 in
theorem rm4 (l : Launch) (Z : State) (a0 : Array Value) (hw : ∀ d ∈ tables_1, d.before a0 Z = true) (ws : List Jvm.Cond) (a1 : Addr) (wT : Addr) (wU : Addr) (h0 : Heap) (n0 : Nat) (Z0 : n0 ≤ h0.size) (ST : Sta Z h0 "com/example/modfin/modfin/alloy/Verdict" "TIMEOUT" "Lcom/example/modfin/modfin/alloy/Verdict;" (.ref wT)) (SU : Sta Z h0 "com/example/modfin/modfin/alloy/Verdict" "UNKNOWN" "Lcom/example/modfin/modfin/alloy/Verdict;" (.ref wU)) (c1 : ¬ (a1 = wT)) (c2 : ¬ (a1 = wU)) :
    MetFree l (⟨"com/example/modfin/modfin/alloy/Verdict", "isDecided", "()Z"⟩ : MethodName) (head1 (Jvm.Cond.code (⟨"com/example/modfin/modfin/alloy/Verdict", "isDecided", "()Z"⟩ : MethodName) prog_3_method_5_code 1 (some .boolean) :: ws) ({ frames := 0, cells := 0, slots := 0, locals := 0 } : Room)) (fun a U => a = #[(.ref a1)] ∧ Z.Warmed39 U.vm ∧ U.heap = h0) (fun _ _ _ _ _ => True) (fun _ U o U' => ∃ v L, o = .returned v ∧ Q_rm4 Z a1 wT wU h0 n0 v U'.heap L ∧ FrameEnd U o U' L ({ frames := 0, cells := 0, slots := 0, locals := 0 } : Room).cells ({ frames := 0, cells := 0, slots := 0, locals := 0 } : Room).slots) := by
  refine MetFree.of_bodySF (plainFor_of_name pn_com_example_modfin_modfin_alloy_Verdict) hisR ?_
  intro p e s m args below meth c s₁ Bd hml0 hP hK
  obtain ⟨rfl, hZ, hh⟩ := hP
  have hx := Bd.exec
  have hby := Bd.bytes
  have hml : c.maxLocals = 1 := hml0
  have hown : s.vm.findClass "com/example/modfin/modfin/alloy/Verdict" = some m.cls := findClass_of_methodNamed Bd.named
  have hnm := (name_of_methodNamed Bd.named Bd.method).1
  have X0 : Stand p l e ({ frames := 0, cells := 0, slots := 0, locals := 0 } : Room) s m #[(.ref a1)] below meth c s₁ [] 0 0 := Stand.of_body Bd
  have e0 : s₁.heap = h0 := by rw [← hh, Bd.state]; rfl
  have N0 := Fr.nil n0
  have pre0 : ∀ t, Steps p.tables e below (s₁.setTop (mkF m 0 #[.val (.ref a1)] [])) t → Steps p.tables e below (s₁.setTop (entryFrame m #[(.ref a1)] 1)) t := fun t k => castTop (ef_4 m a1) k
  obtain ⟨S0, hS0⟩ : ∃ S, S = s₁.setTop (entryFrame m #[(.ref a1)] 1) := ⟨_, rfl⟩
  rw [← hS0] at pre0 ⊢
  obtain ⟨T1, X1, e1, st1⟩ := getS2 X0 hx hZ hown (host := "") (Or.inl (hw _ (List.mem_of_getElem? (i := 34) rfl))) Via.refl e0 ST (g := (mkF m 1 #[.val (.ref a1)] [(.ref a1)])) rfl (hb hby d4_1)
  obtain ⟨T2, X2, e2, st2⟩ := getS2 X1 hx hZ hown (host := "") (Or.inl (hw _ (List.mem_of_getElem? (i := 36) rfl))) Via.refl e1 SU (g := (mkF m 8 #[.val (.ref a1)] [(.ref a1)])) rfl (hb hby d4_8)
  obtain ⟨fs, hr, hrun, hended, hW, hsame⟩ := X2.leave (v := some (.int (1 : Int32))) (fun h => by rw [Bd.returns] at h; cases h)
  refine ⟨_, _, pre0 _ ?_, hrun, hended, _, _, rfl, ?_, ⟨_, rfl⟩, hW, hsame.mono (by decide) (by decide)⟩
  · show Steps p.tables e below (s₁.setTop (mkF m 0 #[.val (.ref a1)] [])) _
    refine XS.aloadN X0.here hx rfl (hb hby d4_0) rfl rfl ?_
    show Steps p.tables e below (s₁.setTop (mkF m 1 #[.val (.ref a1)] [(.ref a1)])) _
    refine st1 _ ?_
    show Steps p.tables e below (T1.setTop (mkF m 4 #[.val (.ref a1)] [(.ref wT), (.ref a1)])) _
    refine Jvm.RoadKit.acmp (g := (mkF m 4 #[.val (.ref a1)] [(.ref wT), (.ref a1)])) X1 hx rfl rfl rfl (pc0 := 4) (pc' := 7) (same := false) rfl (hb hby d4_4) rfl (decide_eq_false fun q => c1 (Value.ref.inj q)) (by decide) (by decide) ?_
    show Steps p.tables e below (T1.setTop (mkF m 7 #[.val (.ref a1)] [])) _
    refine XS.aloadN X1.here hx rfl (hb hby d4_7) rfl rfl ?_
    show Steps p.tables e below (T1.setTop (mkF m 8 #[.val (.ref a1)] [(.ref a1)])) _
    refine st2 _ ?_
    show Steps p.tables e below (T2.setTop (mkF m 11 #[.val (.ref a1)] [(.ref wU), (.ref a1)])) _
    refine Jvm.RoadKit.acmp (g := (mkF m 11 #[.val (.ref a1)] [(.ref wU), (.ref a1)])) X2 hx rfl rfl rfl (pc0 := 11) (pc' := 14) (same := false) rfl (hb hby d4_11) rfl (decide_eq_false fun q => c2 (Value.ref.inj q)) (by decide) (by decide) ?_
    show Steps p.tables e below (T2.setTop (mkF m 14 #[.val (.ref a1)] [])) _
    refine XS.iconst X2.here hx rfl (hb hby d4_14) ?_
    show Steps p.tables e below (T2.setTop (mkF m 15 #[.val (.ref a1)] [(.int (1 : Int32))])) _
    refine XS.goto X2.here hx rfl (pc0 := 15) (pc' := 19) rfl (hb hby d4_15) (by decide) (by decide) ?_
    show Steps p.tables e below (T2.setTop (mkF m 19 #[.val (.ref a1)] [(.int (1 : Int32))])) _
    exact retN X2 hx (t := .boolean) Bd.returns (by simp) (hb hby d4_19) hr
  · show Q_rm4 Z a1 wT wU h0 n0 _ T2.heap _
    rw [e2]
    exact ⟨rfl, N0, rfl⟩
theorem pn_com_example_modfin_modfin_alloy_VerdictIsFoundPinLaw : plainName "com/example/modfin/modfin/alloy/VerdictIsFoundPinLaw" = true := by first | (simp [plainName, overriddenIn]; done) | decide +kernel
theorem ef_0 (m : MethodId) (x0 : Int32) (x1 : Int32) : entryFrame m #[(.int x0), (.int x1)] maxLocals = mkF m 0 #[.val (.int x0), .val (.int x1), .unset, .unset, .unset, .unset, .unset, .unset] [] := by first | (simp [entryFrame, mkF, argsToLocals, Value.category, maxLocals]; done) | rfl
theorem pd_1 : parseMethodDescriptor "(Lcom/example/modfin/modfin/core/Outcome;Z)Lcom/example/modfin/modfin/alloy/Verdict;" = some ⟨[(.object "com/example/modfin/modfin/core/Outcome"), .boolean], some (.object "com/example/modfin/modfin/alloy/Verdict")⟩ := by decide +kernel
theorem pd_2 : parseMethodDescriptor "()Z" = some ⟨[], some .boolean⟩ := by decide +kernel
def Q_rm0 (Z : State) (p1 : Int32) (p2 : Int32) (aS : Addr) (kS : ClassId) (wI : Addr) (wC : Addr) (wT : Addr) (wU : Addr) (oo : Addr) (w : Addr) (h0 : Heap) (n0 : Nat) (v : Option Value) (h : Heap) (L : List Loc) : Prop := v = some (.int 1) ∧ Fr n0 L ∧ True
set_option maxRecDepth 65536 in
set_option maxHeartbeats 40000000 in
theorem rm0 (l : Launch) (Z : State) (a0 : Array Value) (hw : ∀ d ∈ tables_1, d.before a0 Z = true) (ws : List Jvm.Cond) (p1 : Int32) (p2 : Int32) (aS : Addr) (kS : ClassId) (wI : Addr) (wC : Addr) (wT : Addr) (wU : Addr) (oo : Addr) (w : Addr) (h0 : Heap) (n0 : Nat) (Z0 : n0 ≤ h0.size) (SM : Sta Z h0 "com/example/modfin/modfin/alloy/Verdict$1" "$SwitchMap$com$example$modfin$modfin$core$Outcome" "[I" (.ref aS)) (VS : Arv Z h0 aS kS .int (4 : Int32) [(.int (1 : Int32)), (.int (2 : Int32)), (.int (3 : Int32)), (.int (0 : Int32))] (.int (0 : Int32))) (SI : Sta Z h0 "com/example/modfin/modfin/alloy/Verdict" "INSTANCE" "Lcom/example/modfin/modfin/alloy/Verdict;" (.ref wI)) (SC : Sta Z h0 "com/example/modfin/modfin/alloy/Verdict" "COUNTEREXAMPLE" "Lcom/example/modfin/modfin/alloy/Verdict;" (.ref wC)) (ST : Sta Z h0 "com/example/modfin/modfin/alloy/Verdict" "TIMEOUT" "Lcom/example/modfin/modfin/alloy/Verdict;" (.ref wT)) (SU : Sta Z h0 "com/example/modfin/modfin/alloy/Verdict" "UNKNOWN" "Lcom/example/modfin/modfin/alloy/Verdict;" (.ref wU)) (hlaw : ((((p1 &&& (2147483647 : Int32)) % (4 : Int32)) = (0 : Int32) ∧ Sta Z h0 "com/example/modfin/modfin/core/Outcome" "MODEL" "Lcom/example/modfin/modfin/core/Outcome;" (.ref oo) ∧ ((w = wI ∨ (¬ (w = wI) ∧ w = wC)) ∧ ¬ (w = wT) ∧ ¬ (w = wU))) ∨ (((p1 &&& (2147483647 : Int32)) % (4 : Int32)) = (1 : Int32) ∧ Sta Z h0 "com/example/modfin/modfin/core/Outcome" "NO_MODEL" "Lcom/example/modfin/modfin/core/Outcome;" (.ref oo) ∧ (¬ (w = wI) ∧ ¬ (w = wC))) ∨ (((p1 &&& (2147483647 : Int32)) % (4 : Int32)) = (2 : Int32) ∧ Sta Z h0 "com/example/modfin/modfin/core/Outcome" "TIMEOUT" "Lcom/example/modfin/modfin/core/Outcome;" (.ref oo) ∧ (¬ (w = wI) ∧ ¬ (w = wC))) ∨ (((p1 &&& (2147483647 : Int32)) % (4 : Int32)) = (3 : Int32) ∧ Sta Z h0 "com/example/modfin/modfin/core/Outcome" "UNKNOWN" "Lcom/example/modfin/modfin/core/Outcome;" (.ref oo) ∧ (¬ (w = wI) ∧ ¬ (w = wC)))) ∧ Exa Z h0 oo "com/example/modfin/modfin/core/Outcome" ∧ Exa Z h0 w "com/example/modfin/modfin/alloy/Verdict" ∧ (∀ cb : Int32, (((p2 &&& (1 : Int32)) = (0 : Int32) ∧ cb = (0 : Int32)) ∨ (¬ ((p2 &&& (1 : Int32)) = (0 : Int32)) ∧ cb = (1 : Int32))) → (Fld Z h0 oo "java/lang/Enum" "ordinal" "I" (.int (0 : Int32)) ∧ ((¬ (cb = (0 : Int32)) ∧ Sta Z h0 "com/example/modfin/modfin/alloy/Verdict" "COUNTEREXAMPLE" "Lcom/example/modfin/modfin/alloy/Verdict;" (.ref w)) ∨ (cb = (0 : Int32) ∧ Sta Z h0 "com/example/modfin/modfin/alloy/Verdict" "INSTANCE" "Lcom/example/modfin/modfin/alloy/Verdict;" (.ref w)))) ∨ (Fld Z h0 oo "java/lang/Enum" "ordinal" "I" (.int (1 : Int32)) ∧ ((¬ (cb = (0 : Int32)) ∧ Sta Z h0 "com/example/modfin/modfin/alloy/Verdict" "NO_COUNTEREXAMPLE" "Lcom/example/modfin/modfin/alloy/Verdict;" (.ref w)) ∨ (cb = (0 : Int32) ∧ Sta Z h0 "com/example/modfin/modfin/alloy/Verdict" "NO_INSTANCE" "Lcom/example/modfin/modfin/alloy/Verdict;" (.ref w)))) ∨ (Fld Z h0 oo "java/lang/Enum" "ordinal" "I" (.int (2 : Int32)) ∧ Sta Z h0 "com/example/modfin/modfin/alloy/Verdict" "TIMEOUT" "Lcom/example/modfin/modfin/alloy/Verdict;" (.ref w)) ∨ (Fld Z h0 oo "java/lang/Enum" "ordinal" "I" (.int (3 : Int32)) ∧ Sta Z h0 "com/example/modfin/modfin/alloy/Verdict" "UNKNOWN" "Lcom/example/modfin/modfin/alloy/Verdict;" (.ref w)))) :
    MetFree l x (head1 (Jvm.Cond.code x code maxLocals ret :: ws) room_1) (fun a U => a = #[(.int p1), (.int p2)] ∧ Z.Warmed39 U.vm ∧ U.heap = h0) (fun _ _ _ _ _ => True) (fun _ U o U' => ∃ v L, o = .returned v ∧ Q_rm0 Z p1 p2 aS kS wI wC wT wU oo w h0 n0 v U'.heap L ∧ FrameEnd U o U' L room_1.cells room_1.slots) := by
  refine MetFree.of_bodySF (plainFor_of_name pn_com_example_modfin_modfin_alloy_VerdictIsFoundPinLaw) hisR ?_
  intro p e s m args below meth c s₁ Bd hml0 hP hK
  obtain ⟨rfl, hZ, hh⟩ := hP
  have hx := Bd.exec
  have hby := Bd.bytes
  have hml : c.maxLocals = 8 := hml0
  have hown : s.vm.findClass "com/example/modfin/modfin/alloy/VerdictIsFoundPinLaw" = some m.cls := findClass_of_methodNamed Bd.named
  have hnm := (name_of_methodNamed Bd.named Bd.method).1
  have X0 : Stand p l e room_1 s m #[(.int p1), (.int p2)] below meth c s₁ [] 0 0 := Stand.of_body Bd
  have e0 : s₁.heap = h0 := by rw [← hh, Bd.state]; rfl
  have N0 := Fr.nil n0
  have pre0 : ∀ t, Steps p.tables e below (s₁.setTop (mkF m 0 #[.val (.int p1), .val (.int p2), .unset, .unset, .unset, .unset, .unset, .unset] [])) t → Steps p.tables e below (s₁.setTop (entryFrame m #[(.int p1), (.int p2)] maxLocals)) t := fun t k => castTop (ef_0 m p1 p2) k
  obtain ⟨S0, hS0⟩ : ∃ S, S = s₁.setTop (entryFrame m #[(.int p1), (.int p2)] maxLocals) := ⟨_, rfl⟩
  rw [← hS0] at pre0 ⊢
  obtain ⟨hp, E, Ew, hof⟩ := hlaw
  have pre1 : ∀ t, Steps p.tables e below (s₁.setTop (mkF m 10 #[.val (.int p1), .val (.int p2), .val (.int ((p1 &&& (2147483647 : Int32)) % (4 : Int32))), .unset, .unset, .unset, .unset, .unset] [(.int (p2 &&& (1 : Int32)))])) t → Steps p.tables e below S0 t := by
    intro t k
    refine pre0 t ?_
    show Steps p.tables e below (s₁.setTop (mkF m 0 #[.val (.int p1), .val (.int p2), .unset, .unset, .unset, .unset, .unset, .unset] [])) _
    refine XS.iloadN X0.here hx rfl (hb hby at_0) rfl ?_
    show Steps p.tables e below (s₁.setTop (mkF m 1 #[.val (.int p1), .val (.int p2), .unset, .unset, .unset, .unset, .unset, .unset] [(.int p1)])) _
    refine X0.ldcInt hx hown (mvT hZ (hw _ (List.mem_of_getElem? (i := 0) rfl))) (g := (mkF m 1 #[.val (.int p1), .val (.int p2), .unset, .unset, .unset, .unset, .unset, .unset] [(.int p1)])) rfl (hb hby at_1) _ ?_
    show Steps p.tables e below (s₁.setTop (mkF m 3 #[.val (.int p1), .val (.int p2), .unset, .unset, .unset, .unset, .unset, .unset] [(.int (2147483647 : Int32)), (.int p1)])) _
    refine XS.iand X0.here hx rfl (hb hby at_3) rfl ?_
    show Steps p.tables e below (s₁.setTop (mkF m 4 #[.val (.int p1), .val (.int p2), .unset, .unset, .unset, .unset, .unset, .unset] [(.int (p1 &&& (2147483647 : Int32)))])) _
    refine XS.iconst X0.here hx rfl (hb hby at_4) ?_
    show Steps p.tables e below (s₁.setTop (mkF m 5 #[.val (.int p1), .val (.int p2), .unset, .unset, .unset, .unset, .unset, .unset] [(.int (4 : Int32)), (.int (p1 &&& (2147483647 : Int32)))])) _
    refine iremM (g := (mkF m 5 #[.val (.int p1), .val (.int p2), .unset, .unset, .unset, .unset, .unset, .unset] [(.int (4 : Int32)), (.int (p1 &&& (2147483647 : Int32)))])) X0 hx rfl (hb hby at_5) rfl (by decide) ?_
    show Steps p.tables e below (s₁.setTop (mkF m 6 #[.val (.int p1), .val (.int p2), .unset, .unset, .unset, .unset, .unset, .unset] [(.int ((p1 &&& (2147483647 : Int32)) % (4 : Int32)))])) _
    refine XS.istoreN X0.here hx rfl (hb hby at_6) rfl (l' := #[.val (.int p1), .val (.int p2), .val (.int ((p1 &&& (2147483647 : Int32)) % (4 : Int32))), .unset, .unset, .unset, .unset, .unset]) rfl ?_
    show Steps p.tables e below (s₁.setTop (mkF m 7 #[.val (.int p1), .val (.int p2), .val (.int ((p1 &&& (2147483647 : Int32)) % (4 : Int32))), .unset, .unset, .unset, .unset, .unset] [])) _
    refine XS.iloadN X0.here hx rfl (hb hby at_7) rfl ?_
    show Steps p.tables e below (s₁.setTop (mkF m 8 #[.val (.int p1), .val (.int p2), .val (.int ((p1 &&& (2147483647 : Int32)) % (4 : Int32))), .unset, .unset, .unset, .unset, .unset] [(.int p2)])) _
    refine XS.iconst X0.here hx rfl (hb hby at_8) ?_
    show Steps p.tables e below (s₁.setTop (mkF m 9 #[.val (.int p1), .val (.int p2), .val (.int ((p1 &&& (2147483647 : Int32)) % (4 : Int32))), .unset, .unset, .unset, .unset, .unset] [(.int (1 : Int32)), (.int p2)])) _
    refine XS.iand X0.here hx rfl (hb hby at_9) rfl ?_
    exact k
  obtain ⟨cb, hcb, pre_cb⟩ : ∃ cb : Int32, (((p2 &&& (1 : Int32)) = (0 : Int32) ∧ cb = (0 : Int32)) ∨ (¬ ((p2 &&& (1 : Int32)) = (0 : Int32)) ∧ cb = (1 : Int32))) ∧ ∀ t, Steps p.tables e below (s₁.setTop (mkF m 18 #[.val (.int p1), .val (.int p2), .val (.int ((p1 &&& (2147483647 : Int32)) % (4 : Int32))), .unset, .unset, .unset, .unset, .unset] [(.int cb)])) t → Steps p.tables e below S0 t := by
    by_cases hc : (p2 &&& (1 : Int32)) = (0 : Int32)
    · refine ⟨(0 : Int32), Or.inl ⟨hc, rfl⟩, fun t k => pre1 t ?_⟩
      show Steps p.tables e below (s₁.setTop (mkF m 10 #[.val (.int p1), .val (.int p2), .val (.int ((p1 &&& (2147483647 : Int32)) % (4 : Int32))), .unset, .unset, .unset, .unset, .unset] [(.int (p2 &&& (1 : Int32)))])) _
      refine XS.ifYes X0.here hx rfl (pc0 := 10) (pc' := 17) rfl (hb hby at_10) rfl ((if0 _ _).trans (teq hc).1) (by decide) (by decide) ?_
      show Steps p.tables e below (s₁.setTop (mkF m 17 #[.val (.int p1), .val (.int p2), .val (.int ((p1 &&& (2147483647 : Int32)) % (4 : Int32))), .unset, .unset, .unset, .unset, .unset] [])) _
      refine XS.iconst X0.here hx rfl (hb hby at_17) ?_
      exact k
    · refine ⟨(1 : Int32), Or.inr ⟨hc, rfl⟩, fun t k => pre1 t ?_⟩
      show Steps p.tables e below (s₁.setTop (mkF m 10 #[.val (.int p1), .val (.int p2), .val (.int ((p1 &&& (2147483647 : Int32)) % (4 : Int32))), .unset, .unset, .unset, .unset, .unset] [(.int (p2 &&& (1 : Int32)))])) _
      refine XS.ifNo X0.here hx rfl (hb hby at_10) rfl ((if0 _ _).trans (feq hc).1) ?_
      show Steps p.tables e below (s₁.setTop (mkF m 13 #[.val (.int p1), .val (.int p2), .val (.int ((p1 &&& (2147483647 : Int32)) % (4 : Int32))), .unset, .unset, .unset, .unset, .unset] [])) _
      refine XS.iconst X0.here hx rfl (hb hby at_13) ?_
      show Steps p.tables e below (s₁.setTop (mkF m 14 #[.val (.int p1), .val (.int p2), .val (.int ((p1 &&& (2147483647 : Int32)) % (4 : Int32))), .unset, .unset, .unset, .unset, .unset] [(.int (1 : Int32))])) _
      refine XS.goto X0.here hx rfl (pc0 := 14) (pc' := 18) rfl (hb hby at_14) (by decide) (by decide) ?_
      exact k
  have pre2 : ∀ t, Steps p.tables e below (s₁.setTop (mkF m 19 #[.val (.int p1), .val (.int p2), .val (.int ((p1 &&& (2147483647 : Int32)) % (4 : Int32))), .val (.int cb), .unset, .unset, .unset, .unset] [])) t → Steps p.tables e below S0 t := by
    intro t k
    refine pre_cb t ?_
    show Steps p.tables e below (s₁.setTop (mkF m 18 #[.val (.int p1), .val (.int p2), .val (.int ((p1 &&& (2147483647 : Int32)) % (4 : Int32))), .unset, .unset, .unset, .unset, .unset] [(.int cb)])) _
    refine XS.istoreN X0.here hx rfl (hb hby at_18) rfl (l' := #[.val (.int p1), .val (.int p2), .val (.int ((p1 &&& (2147483647 : Int32)) % (4 : Int32))), .val (.int cb), .unset, .unset, .unset, .unset]) rfl ?_
    exact k
  rcases hp with ⟨hi, S1, hF⟩ | ⟨hi, S1, hF⟩ | ⟨hi, S1, hF⟩ | ⟨hi, S1, hF⟩
  · obtain ⟨T3, X3, e3, st3⟩ := getS2 X0 hx hZ hown (host := "") (Or.inl (hw _ (List.mem_of_getElem? (i := 1) rfl))) Via.refl e0 S1 (g := (mkF m 23 #[.val (.int p1), .val (.int p2), .val (.int ((p1 &&& (2147483647 : Int32)) % (4 : Int32))), .val (.int cb), .unset, .unset, .unset, .unset] [])) rfl (hb hby at_23)
    obtain ⟨_, _, ⟨T4, L4, k4, n4⟩, -, X4, ⟨Lc4, hQ4, l4, y4, z4⟩, st4⟩ := Jvm.LawKit.callS X3 hx (y := (⟨"com/example/modfin/modfin/alloy/Verdict", "of", "(Lcom/example/modfin/modfin/core/Outcome;Z)Lcom/example/modfin/modfin/alloy/Verdict;"⟩ : MethodName)) hown (mvT hZ (hw _ (List.mem_of_getElem? (i := 4) rfl))) (mvT hZ (hw _ (List.mem_of_getElem? (i := 5) rfl))) (mvT hZ (hw _ (List.mem_of_getElem? (i := 6) rfl))) (mvT hZ (hw _ (List.mem_of_getElem? (i := 7) rfl))) (by decide) (backOf (W := 0) (rm1 l Z a0 hw [] oo cb aS kS w h0 n0 (Nat.le_trans Z0 (Keep.refl h0 []).1) E SM VS (hof cb hcb)) hZ (hw _ (List.mem_of_getElem? (i := 7) rfl)) (hw _ (List.mem_of_getElem? (i := 6) rfl)) (by decide) (by decide)) (g := (mkF m 65 #[.val (.int p1), .val (.int p2), .val (.int ((p1 &&& (2147483647 : Int32)) % (4 : Int32))), .val (.int cb), .val (.ref oo), .unset, .unset, .unset] [(.int cb), (.ref oo)])) rfl (by rw [hml]; rfl) (argsL := [(.ref oo), (.int cb)]) (rest := []) (lenOf pd_1 rfl) rfl (by show 2 * 0 + _ ≤ _; exact Nat.le_of_eq rfl) (hb hby at_65) (fun _ _ => ⟨rfl, e3, (by decide : 0 + 0 ≤ _), (by decide : 0 + 0 ≤ _)⟩)
    dsimp only [Pt.U, Pt.locs, Pt.cells, Pt.slots] at X4 l4 y4 z4 st4 hQ4
    subst l4 y4 z4
    obtain ⟨rfl, N4q, eq4⟩ := hQ4
    have N4 := Fr.app N0 N4q
    have e4 : T4.heap = h0 := eq4
    obtain ⟨cq5, kq5, q5a, q5b, q5c⟩ := isOf hZ e4 Ew
    obtain ⟨_, _, ⟨T5, L5, k5, n5⟩, -, X5, ⟨Lc5, hQ5, l5, y5, z5⟩, st5⟩ := X4.virtualBack hx (y := (⟨"com/example/modfin/modfin/alloy/Verdict", "isFound", "()Z"⟩ : MethodName)) (z := (⟨"com/example/modfin/modfin/alloy/Verdict", "isFound", "()Z"⟩ : MethodName)) hown (mvT hZ (hw _ (List.mem_of_getElem? (i := 22) rfl))) (mvT hZ (hw _ (List.mem_of_getElem? (i := 23) rfl))) (notFace_of_selects (args := #[]) (mvT hZ (hw _ (List.mem_of_getElem? (i := 25) rfl)))) (mvT hZ (hw _ (List.mem_of_getElem? (i := 25) rfl))) (mvT hZ (hw _ (List.mem_of_getElem? (i := 24) rfl))) (by decide) (backOf (W := 0) (rm3 l Z a0 hw [] w wI wC (1 : Int32) h0 n0 (Nat.le_trans Z0 (Keep.refl h0 []).1) SI SC (hF.1.elim (fun q => Or.inl ⟨q, rfl⟩) (fun q => Or.inr (Or.inl ⟨q.1, q.2, rfl⟩)))) hZ (hw _ (List.mem_of_getElem? (i := 26) rfl)) (hw _ (List.mem_of_getElem? (i := 6) rfl)) (by decide) (by decide)) q5a q5c (g := (mkF m 72 #[.val (.int p1), .val (.int p2), .val (.int ((p1 &&& (2147483647 : Int32)) % (4 : Int32))), .val (.int cb), .val (.ref oo), .val (.ref w), .unset, .unset] [(.ref w)])) rfl (by rw [hml]; rfl) (Steps.refl _) (argsL := []) (rest := []) (lenOf pd_2 rfl) rfl (by show 2 * 0 + _ ≤ _; exact Nat.le_of_eq rfl) (hb hby at_72) (fun _ _ => ⟨rfl, e4, (by decide : 0 + 0 ≤ _), (by decide : 0 + 0 ≤ _)⟩)
    dsimp only [Pt.U, Pt.locs, Pt.cells, Pt.slots] at X5 l5 y5 z5 st5 hQ5
    subst l5 y5 z5
    obtain ⟨rfl, N5q, eq5⟩ := hQ5
    have N5 := Fr.app N4 N5q
    have e5 : T5.heap = h0 := eq5
    obtain ⟨cq6, kq6, q6a, q6b, q6c⟩ := isOf hZ e5 Ew
    obtain ⟨_, _, ⟨T6, L6, k6, n6⟩, -, X6, ⟨Lc6, hQ6, l6, y6, z6⟩, st6⟩ := X5.virtualBack hx (y := (⟨"com/example/modfin/modfin/alloy/Verdict", "isDecided", "()Z"⟩ : MethodName)) (z := (⟨"com/example/modfin/modfin/alloy/Verdict", "isDecided", "()Z"⟩ : MethodName)) hown (mvT hZ (hw _ (List.mem_of_getElem? (i := 29) rfl))) (mvT hZ (hw _ (List.mem_of_getElem? (i := 30) rfl))) (notFace_of_selects (args := #[]) (mvT hZ (hw _ (List.mem_of_getElem? (i := 32) rfl)))) (mvT hZ (hw _ (List.mem_of_getElem? (i := 32) rfl))) (mvT hZ (hw _ (List.mem_of_getElem? (i := 31) rfl))) (by decide) (backOf (W := 0) (rm4 l Z a0 hw [] w wT wU h0 n0 (Nat.le_trans Z0 (Keep.refl h0 []).1) ST SU hF.2.1 hF.2.2) hZ (hw _ (List.mem_of_getElem? (i := 33) rfl)) (hw _ (List.mem_of_getElem? (i := 6) rfl)) (by decide) (by decide)) q6a q6c (g := (mkF m 104 #[.val (.int p1), .val (.int p2), .val (.int ((p1 &&& (2147483647 : Int32)) % (4 : Int32))), .val (.int cb), .val (.ref oo), .val (.ref w), .val (.int (1 : Int32)), .val (.int (1 : Int32))] [(.ref w)])) rfl (by rw [hml]; rfl) (Steps.refl _) (argsL := []) (rest := []) (lenOf pd_2 rfl) rfl (by show 2 * 0 + _ ≤ _; exact Nat.le_of_eq rfl) (hb hby at_104) (fun _ _ => ⟨rfl, e5, (by decide : 0 + 0 ≤ _), (by decide : 0 + 0 ≤ _)⟩)
    dsimp only [Pt.U, Pt.locs, Pt.cells, Pt.slots] at X6 l6 y6 z6 st6 hQ6
    subst l6 y6 z6
    obtain ⟨rfl, N6q, eq6⟩ := hQ6
    have N6 := Fr.app N5 N6q
    have e6 : T6.heap = h0 := eq6
    obtain ⟨fs, hr, hrun, hended, hW, hsame⟩ := X6.leave (v := some (.int (1 : Int32))) (fun h => by rw [Bd.returns] at h; cases h)
    refine ⟨_, _, pre2 _ ?_, hrun, hended, _, _, rfl, ?_, ⟨_, rfl⟩, hW, hsame.mono (by decide) (by decide)⟩
    · show Steps p.tables e below (s₁.setTop (mkF m 19 #[.val (.int p1), .val (.int p2), .val (.int ((p1 &&& (2147483647 : Int32)) % (4 : Int32))), .val (.int cb), .unset, .unset, .unset, .unset] [])) _
      refine XS.iloadN X0.here hx rfl (hb hby at_19) rfl ?_
      show Steps p.tables e below (s₁.setTop (mkF m 20 #[.val (.int p1), .val (.int p2), .val (.int ((p1 &&& (2147483647 : Int32)) % (4 : Int32))), .val (.int cb), .unset, .unset, .unset, .unset] [(.int ((p1 &&& (2147483647 : Int32)) % (4 : Int32)))])) _
      refine XS.ifNo X0.here hx rfl (hb hby at_20) rfl ((if0 _ _).trans (teq hi).2) ?_
      show Steps p.tables e below (s₁.setTop (mkF m 23 #[.val (.int p1), .val (.int p2), .val (.int ((p1 &&& (2147483647 : Int32)) % (4 : Int32))), .val (.int cb), .unset, .unset, .unset, .unset] [])) _
      refine st3 _ ?_
      show Steps p.tables e below (T3.setTop (mkF m 26 #[.val (.int p1), .val (.int p2), .val (.int ((p1 &&& (2147483647 : Int32)) % (4 : Int32))), .val (.int cb), .unset, .unset, .unset, .unset] [(.ref oo)])) _
      refine XS.astore X3.here hx rfl (hb hby at_26) rfl rfl (l' := #[.val (.int p1), .val (.int p2), .val (.int ((p1 &&& (2147483647 : Int32)) % (4 : Int32))), .val (.int cb), .val (.ref oo), .unset, .unset, .unset]) rfl ?_
      show Steps p.tables e below (T3.setTop (mkF m 28 #[.val (.int p1), .val (.int p2), .val (.int ((p1 &&& (2147483647 : Int32)) % (4 : Int32))), .val (.int cb), .val (.ref oo), .unset, .unset, .unset] [])) _
      refine XS.goto X3.here hx rfl (pc0 := 28) (pc' := 62) rfl (hb hby at_28) (by decide) (by decide) ?_
      show Steps p.tables e below (T3.setTop (mkF m 62 #[.val (.int p1), .val (.int p2), .val (.int ((p1 &&& (2147483647 : Int32)) % (4 : Int32))), .val (.int cb), .val (.ref oo), .unset, .unset, .unset] [])) _
      refine XS.aload X3.here hx rfl (hb hby at_62) rfl rfl ?_
      show Steps p.tables e below (T3.setTop (mkF m 64 #[.val (.int p1), .val (.int p2), .val (.int ((p1 &&& (2147483647 : Int32)) % (4 : Int32))), .val (.int cb), .val (.ref oo), .unset, .unset, .unset] [(.ref oo)])) _
      refine XS.iloadN X3.here hx rfl (hb hby at_64) rfl ?_
      show Steps p.tables e below (T3.setTop (mkF m 65 #[.val (.int p1), .val (.int p2), .val (.int ((p1 &&& (2147483647 : Int32)) % (4 : Int32))), .val (.int cb), .val (.ref oo), .unset, .unset, .unset] [(.int cb), (.ref oo)])) _
      refine st4 _ ?_
      show Steps p.tables e below (T4.setTop (mkF m 68 #[.val (.int p1), .val (.int p2), .val (.int ((p1 &&& (2147483647 : Int32)) % (4 : Int32))), .val (.int cb), .val (.ref oo), .unset, .unset, .unset] [(.ref w)])) _
      refine XS.astore X4.here hx rfl (hb hby at_68) rfl rfl (l' := #[.val (.int p1), .val (.int p2), .val (.int ((p1 &&& (2147483647 : Int32)) % (4 : Int32))), .val (.int cb), .val (.ref oo), .val (.ref w), .unset, .unset]) rfl ?_
      show Steps p.tables e below (T4.setTop (mkF m 70 #[.val (.int p1), .val (.int p2), .val (.int ((p1 &&& (2147483647 : Int32)) % (4 : Int32))), .val (.int cb), .val (.ref oo), .val (.ref w), .unset, .unset] [])) _
      refine XS.aload X4.here hx rfl (hb hby at_70) rfl rfl ?_
      show Steps p.tables e below (T4.setTop (mkF m 72 #[.val (.int p1), .val (.int p2), .val (.int ((p1 &&& (2147483647 : Int32)) % (4 : Int32))), .val (.int cb), .val (.ref oo), .val (.ref w), .unset, .unset] [(.ref w)])) _
      refine st5.trans ?_
      show Steps p.tables e below (T5.setTop (mkF m 75 #[.val (.int p1), .val (.int p2), .val (.int ((p1 &&& (2147483647 : Int32)) % (4 : Int32))), .val (.int cb), .val (.ref oo), .val (.ref w), .unset, .unset] [(.int (1 : Int32))])) _
      refine XS.istore X5.here hx rfl (hb hby at_75) rfl (l' := #[.val (.int p1), .val (.int p2), .val (.int ((p1 &&& (2147483647 : Int32)) % (4 : Int32))), .val (.int cb), .val (.ref oo), .val (.ref w), .val (.int (1 : Int32)), .unset]) rfl ?_
      show Steps p.tables e below (T5.setTop (mkF m 77 #[.val (.int p1), .val (.int p2), .val (.int ((p1 &&& (2147483647 : Int32)) % (4 : Int32))), .val (.int cb), .val (.ref oo), .val (.ref w), .val (.int (1 : Int32)), .unset] [])) _
      refine XS.iloadN X5.here hx rfl (hb hby at_77) rfl ?_
      show Steps p.tables e below (T5.setTop (mkF m 78 #[.val (.int p1), .val (.int p2), .val (.int ((p1 &&& (2147483647 : Int32)) % (4 : Int32))), .val (.int cb), .val (.ref oo), .val (.ref w), .val (.int (1 : Int32)), .unset] [(.int ((p1 &&& (2147483647 : Int32)) % (4 : Int32)))])) _
      refine XS.ifNo X5.here hx rfl (hb hby at_78) rfl ((if0 _ _).trans (teq hi).2) ?_
      show Steps p.tables e below (T5.setTop (mkF m 81 #[.val (.int p1), .val (.int p2), .val (.int ((p1 &&& (2147483647 : Int32)) % (4 : Int32))), .val (.int cb), .val (.ref oo), .val (.ref w), .val (.int (1 : Int32)), .unset] [])) _
      refine XS.iconst X5.here hx rfl (hb hby at_81) ?_
      show Steps p.tables e below (T5.setTop (mkF m 82 #[.val (.int p1), .val (.int p2), .val (.int ((p1 &&& (2147483647 : Int32)) % (4 : Int32))), .val (.int cb), .val (.ref oo), .val (.ref w), .val (.int (1 : Int32)), .unset] [(.int (1 : Int32))])) _
      refine XS.goto X5.here hx rfl (pc0 := 82) (pc' := 86) rfl (hb hby at_82) (by decide) (by decide) ?_
      show Steps p.tables e below (T5.setTop (mkF m 86 #[.val (.int p1), .val (.int p2), .val (.int ((p1 &&& (2147483647 : Int32)) % (4 : Int32))), .val (.int cb), .val (.ref oo), .val (.ref w), .val (.int (1 : Int32)), .unset] [(.int (1 : Int32))])) _
      refine XS.istore X5.here hx rfl (hb hby at_86) rfl (l' := #[.val (.int p1), .val (.int p2), .val (.int ((p1 &&& (2147483647 : Int32)) % (4 : Int32))), .val (.int cb), .val (.ref oo), .val (.ref w), .val (.int (1 : Int32)), .val (.int (1 : Int32))]) rfl ?_
      show Steps p.tables e below (T5.setTop (mkF m 88 #[.val (.int p1), .val (.int p2), .val (.int ((p1 &&& (2147483647 : Int32)) % (4 : Int32))), .val (.int cb), .val (.ref oo), .val (.ref w), .val (.int (1 : Int32)), .val (.int (1 : Int32))] [])) _
      refine XS.iload X5.here hx rfl (hb hby at_88) rfl ?_
      show Steps p.tables e below (T5.setTop (mkF m 90 #[.val (.int p1), .val (.int p2), .val (.int ((p1 &&& (2147483647 : Int32)) % (4 : Int32))), .val (.int cb), .val (.ref oo), .val (.ref w), .val (.int (1 : Int32)), .val (.int (1 : Int32))] [(.int (1 : Int32))])) _
      refine XS.iload X5.here hx rfl (hb hby at_90) rfl ?_
      show Steps p.tables e below (T5.setTop (mkF m 92 #[.val (.int p1), .val (.int p2), .val (.int ((p1 &&& (2147483647 : Int32)) % (4 : Int32))), .val (.int cb), .val (.ref oo), .val (.ref w), .val (.int (1 : Int32)), .val (.int (1 : Int32))] [(.int (1 : Int32)), (.int (1 : Int32))])) _
      refine XS.icmpYes X5.here hx rfl (pc0 := 92) (pc' := 97) rfl (hb hby at_92) rfl (teq rfl).1 (by decide) (by decide) ?_
      show Steps p.tables e below (T5.setTop (mkF m 97 #[.val (.int p1), .val (.int p2), .val (.int ((p1 &&& (2147483647 : Int32)) % (4 : Int32))), .val (.int cb), .val (.ref oo), .val (.ref w), .val (.int (1 : Int32)), .val (.int (1 : Int32))] [])) _
      refine XS.iload X5.here hx rfl (hb hby at_97) rfl ?_
      show Steps p.tables e below (T5.setTop (mkF m 99 #[.val (.int p1), .val (.int p2), .val (.int ((p1 &&& (2147483647 : Int32)) % (4 : Int32))), .val (.int cb), .val (.ref oo), .val (.ref w), .val (.int (1 : Int32)), .val (.int (1 : Int32))] [(.int (1 : Int32))])) _
      refine XS.ifNo X5.here hx rfl (hb hby at_99) rfl ((if0 _ _).trans (feq (by decide)).1) ?_
      show Steps p.tables e below (T5.setTop (mkF m 102 #[.val (.int p1), .val (.int p2), .val (.int ((p1 &&& (2147483647 : Int32)) % (4 : Int32))), .val (.int cb), .val (.ref oo), .val (.ref w), .val (.int (1 : Int32)), .val (.int (1 : Int32))] [])) _
      refine XS.aload X5.here hx rfl (hb hby at_102) rfl rfl ?_
      show Steps p.tables e below (T5.setTop (mkF m 104 #[.val (.int p1), .val (.int p2), .val (.int ((p1 &&& (2147483647 : Int32)) % (4 : Int32))), .val (.int cb), .val (.ref oo), .val (.ref w), .val (.int (1 : Int32)), .val (.int (1 : Int32))] [(.ref w)])) _
      refine st6.trans ?_
      show Steps p.tables e below (T6.setTop (mkF m 107 #[.val (.int p1), .val (.int p2), .val (.int ((p1 &&& (2147483647 : Int32)) % (4 : Int32))), .val (.int cb), .val (.ref oo), .val (.ref w), .val (.int (1 : Int32)), .val (.int (1 : Int32))] [(.int (1 : Int32))])) _
      refine XS.ifYes X6.here hx rfl (pc0 := 107) (pc' := 112) rfl (hb hby at_107) rfl ((if0 _ _).trans (feq (by decide)).2) (by decide) (by decide) ?_
      show Steps p.tables e below (T6.setTop (mkF m 112 #[.val (.int p1), .val (.int p2), .val (.int ((p1 &&& (2147483647 : Int32)) % (4 : Int32))), .val (.int cb), .val (.ref oo), .val (.ref w), .val (.int (1 : Int32)), .val (.int (1 : Int32))] [])) _
      refine XS.iconst X6.here hx rfl (hb hby at_112) ?_
      show Steps p.tables e below (T6.setTop (mkF m 113 #[.val (.int p1), .val (.int p2), .val (.int ((p1 &&& (2147483647 : Int32)) % (4 : Int32))), .val (.int cb), .val (.ref oo), .val (.ref w), .val (.int (1 : Int32)), .val (.int (1 : Int32))] [(.int (1 : Int32))])) _
      exact retN X6 hx (t := .boolean) Bd.returns (by simp) (hb hby at_113) hr
    · show Q_rm0 Z p1 p2 aS kS wI wC wT wU oo w h0 n0 _ T6.heap _
      rw [e6]
      exact ⟨rfl, N6, trivial⟩
  · obtain ⟨T7, X7, e7, st7⟩ := getS2 X0 hx hZ hown (host := "") (Or.inl (hw _ (List.mem_of_getElem? (i := 40) rfl))) Via.refl e0 S1 (g := (mkF m 36 #[.val (.int p1), .val (.int p2), .val (.int ((p1 &&& (2147483647 : Int32)) % (4 : Int32))), .val (.int cb), .unset, .unset, .unset, .unset] [])) rfl (hb hby at_36)
    obtain ⟨_, _, ⟨T8, L8, k8, n8⟩, -, X8, ⟨Lc8, hQ8, l8, y8, z8⟩, st8⟩ := Jvm.LawKit.callS X7 hx (y := (⟨"com/example/modfin/modfin/alloy/Verdict", "of", "(Lcom/example/modfin/modfin/core/Outcome;Z)Lcom/example/modfin/modfin/alloy/Verdict;"⟩ : MethodName)) hown (mvT hZ (hw _ (List.mem_of_getElem? (i := 4) rfl))) (mvT hZ (hw _ (List.mem_of_getElem? (i := 5) rfl))) (mvT hZ (hw _ (List.mem_of_getElem? (i := 6) rfl))) (mvT hZ (hw _ (List.mem_of_getElem? (i := 7) rfl))) (by decide) (backOf (W := 0) (rm1 l Z a0 hw [] oo cb aS kS w h0 n0 (Nat.le_trans Z0 (Keep.refl h0 []).1) E SM VS (hof cb hcb)) hZ (hw _ (List.mem_of_getElem? (i := 7) rfl)) (hw _ (List.mem_of_getElem? (i := 6) rfl)) (by decide) (by decide)) (g := (mkF m 65 #[.val (.int p1), .val (.int p2), .val (.int ((p1 &&& (2147483647 : Int32)) % (4 : Int32))), .val (.int cb), .val (.ref oo), .unset, .unset, .unset] [(.int cb), (.ref oo)])) rfl (by rw [hml]; rfl) (argsL := [(.ref oo), (.int cb)]) (rest := []) (lenOf pd_1 rfl) rfl (by show 2 * 0 + _ ≤ _; exact Nat.le_of_eq rfl) (hb hby at_65) (fun _ _ => ⟨rfl, e7, (by decide : 0 + 0 ≤ _), (by decide : 0 + 0 ≤ _)⟩)
    dsimp only [Pt.U, Pt.locs, Pt.cells, Pt.slots] at X8 l8 y8 z8 st8 hQ8
    subst l8 y8 z8
    obtain ⟨rfl, N8q, eq8⟩ := hQ8
    have N8 := Fr.app N0 N8q
    have e8 : T8.heap = h0 := eq8
    obtain ⟨cq9, kq9, q9a, q9b, q9c⟩ := isOf hZ e8 Ew
    obtain ⟨_, _, ⟨T9, L9, k9, n9⟩, -, X9, ⟨Lc9, hQ9, l9, y9, z9⟩, st9⟩ := X8.virtualBack hx (y := (⟨"com/example/modfin/modfin/alloy/Verdict", "isFound", "()Z"⟩ : MethodName)) (z := (⟨"com/example/modfin/modfin/alloy/Verdict", "isFound", "()Z"⟩ : MethodName)) hown (mvT hZ (hw _ (List.mem_of_getElem? (i := 22) rfl))) (mvT hZ (hw _ (List.mem_of_getElem? (i := 23) rfl))) (notFace_of_selects (args := #[]) (mvT hZ (hw _ (List.mem_of_getElem? (i := 25) rfl)))) (mvT hZ (hw _ (List.mem_of_getElem? (i := 25) rfl))) (mvT hZ (hw _ (List.mem_of_getElem? (i := 24) rfl))) (by decide) (backOf (W := 0) (rm3 l Z a0 hw [] w wI wC (0 : Int32) h0 n0 (Nat.le_trans Z0 (Keep.refl h0 []).1) SI SC (Or.inr (Or.inr ⟨hF.1, hF.2, rfl⟩))) hZ (hw _ (List.mem_of_getElem? (i := 26) rfl)) (hw _ (List.mem_of_getElem? (i := 6) rfl)) (by decide) (by decide)) q9a q9c (g := (mkF m 72 #[.val (.int p1), .val (.int p2), .val (.int ((p1 &&& (2147483647 : Int32)) % (4 : Int32))), .val (.int cb), .val (.ref oo), .val (.ref w), .unset, .unset] [(.ref w)])) rfl (by rw [hml]; rfl) (Steps.refl _) (argsL := []) (rest := []) (lenOf pd_2 rfl) rfl (by show 2 * 0 + _ ≤ _; exact Nat.le_of_eq rfl) (hb hby at_72) (fun _ _ => ⟨rfl, e8, (by decide : 0 + 0 ≤ _), (by decide : 0 + 0 ≤ _)⟩)
    dsimp only [Pt.U, Pt.locs, Pt.cells, Pt.slots] at X9 l9 y9 z9 st9 hQ9
    subst l9 y9 z9
    obtain ⟨rfl, N9q, eq9⟩ := hQ9
    have N9 := Fr.app N8 N9q
    have e9 : T9.heap = h0 := eq9
    obtain ⟨fs, hr, hrun, hended, hW, hsame⟩ := X9.leave (v := some (.int (1 : Int32))) (fun h => by rw [Bd.returns] at h; cases h)
    refine ⟨_, _, pre2 _ ?_, hrun, hended, _, _, rfl, ?_, ⟨_, rfl⟩, hW, hsame.mono (by decide) (by decide)⟩
    · show Steps p.tables e below (s₁.setTop (mkF m 19 #[.val (.int p1), .val (.int p2), .val (.int ((p1 &&& (2147483647 : Int32)) % (4 : Int32))), .val (.int cb), .unset, .unset, .unset, .unset] [])) _
      refine XS.iloadN X0.here hx rfl (hb hby at_19) rfl ?_
      show Steps p.tables e below (s₁.setTop (mkF m 20 #[.val (.int p1), .val (.int p2), .val (.int ((p1 &&& (2147483647 : Int32)) % (4 : Int32))), .val (.int cb), .unset, .unset, .unset, .unset] [(.int ((p1 &&& (2147483647 : Int32)) % (4 : Int32)))])) _
      refine XS.ifYes X0.here hx rfl (pc0 := 20) (pc' := 31) rfl (hb hby at_20) rfl ((if0 _ _).trans (feq (by rw [hi]; decide)).2) (by decide) (by decide) ?_
      show Steps p.tables e below (s₁.setTop (mkF m 31 #[.val (.int p1), .val (.int p2), .val (.int ((p1 &&& (2147483647 : Int32)) % (4 : Int32))), .val (.int cb), .unset, .unset, .unset, .unset] [])) _
      refine XS.iloadN X0.here hx rfl (hb hby at_31) rfl ?_
      show Steps p.tables e below (s₁.setTop (mkF m 32 #[.val (.int p1), .val (.int p2), .val (.int ((p1 &&& (2147483647 : Int32)) % (4 : Int32))), .val (.int cb), .unset, .unset, .unset, .unset] [(.int ((p1 &&& (2147483647 : Int32)) % (4 : Int32)))])) _
      refine XS.iconst X0.here hx rfl (hb hby at_32) ?_
      show Steps p.tables e below (s₁.setTop (mkF m 33 #[.val (.int p1), .val (.int p2), .val (.int ((p1 &&& (2147483647 : Int32)) % (4 : Int32))), .val (.int cb), .unset, .unset, .unset, .unset] [(.int (1 : Int32)), (.int ((p1 &&& (2147483647 : Int32)) % (4 : Int32)))])) _
      refine XS.icmpNo X0.here hx rfl (hb hby at_33) rfl (teq hi).2 ?_
      show Steps p.tables e below (s₁.setTop (mkF m 36 #[.val (.int p1), .val (.int p2), .val (.int ((p1 &&& (2147483647 : Int32)) % (4 : Int32))), .val (.int cb), .unset, .unset, .unset, .unset] [])) _
      refine st7 _ ?_
      show Steps p.tables e below (T7.setTop (mkF m 39 #[.val (.int p1), .val (.int p2), .val (.int ((p1 &&& (2147483647 : Int32)) % (4 : Int32))), .val (.int cb), .unset, .unset, .unset, .unset] [(.ref oo)])) _
      refine XS.astore X7.here hx rfl (hb hby at_39) rfl rfl (l' := #[.val (.int p1), .val (.int p2), .val (.int ((p1 &&& (2147483647 : Int32)) % (4 : Int32))), .val (.int cb), .val (.ref oo), .unset, .unset, .unset]) rfl ?_
      show Steps p.tables e below (T7.setTop (mkF m 41 #[.val (.int p1), .val (.int p2), .val (.int ((p1 &&& (2147483647 : Int32)) % (4 : Int32))), .val (.int cb), .val (.ref oo), .unset, .unset, .unset] [])) _
      refine XS.goto X7.here hx rfl (pc0 := 41) (pc' := 62) rfl (hb hby at_41) (by decide) (by decide) ?_
      show Steps p.tables e below (T7.setTop (mkF m 62 #[.val (.int p1), .val (.int p2), .val (.int ((p1 &&& (2147483647 : Int32)) % (4 : Int32))), .val (.int cb), .val (.ref oo), .unset, .unset, .unset] [])) _
      refine XS.aload X7.here hx rfl (hb hby at_62) rfl rfl ?_
      show Steps p.tables e below (T7.setTop (mkF m 64 #[.val (.int p1), .val (.int p2), .val (.int ((p1 &&& (2147483647 : Int32)) % (4 : Int32))), .val (.int cb), .val (.ref oo), .unset, .unset, .unset] [(.ref oo)])) _
      refine XS.iloadN X7.here hx rfl (hb hby at_64) rfl ?_
      show Steps p.tables e below (T7.setTop (mkF m 65 #[.val (.int p1), .val (.int p2), .val (.int ((p1 &&& (2147483647 : Int32)) % (4 : Int32))), .val (.int cb), .val (.ref oo), .unset, .unset, .unset] [(.int cb), (.ref oo)])) _
      refine st8 _ ?_
      show Steps p.tables e below (T8.setTop (mkF m 68 #[.val (.int p1), .val (.int p2), .val (.int ((p1 &&& (2147483647 : Int32)) % (4 : Int32))), .val (.int cb), .val (.ref oo), .unset, .unset, .unset] [(.ref w)])) _
      refine XS.astore X8.here hx rfl (hb hby at_68) rfl rfl (l' := #[.val (.int p1), .val (.int p2), .val (.int ((p1 &&& (2147483647 : Int32)) % (4 : Int32))), .val (.int cb), .val (.ref oo), .val (.ref w), .unset, .unset]) rfl ?_
      show Steps p.tables e below (T8.setTop (mkF m 70 #[.val (.int p1), .val (.int p2), .val (.int ((p1 &&& (2147483647 : Int32)) % (4 : Int32))), .val (.int cb), .val (.ref oo), .val (.ref w), .unset, .unset] [])) _
      refine XS.aload X8.here hx rfl (hb hby at_70) rfl rfl ?_
      show Steps p.tables e below (T8.setTop (mkF m 72 #[.val (.int p1), .val (.int p2), .val (.int ((p1 &&& (2147483647 : Int32)) % (4 : Int32))), .val (.int cb), .val (.ref oo), .val (.ref w), .unset, .unset] [(.ref w)])) _
      refine st9.trans ?_
      show Steps p.tables e below (T9.setTop (mkF m 75 #[.val (.int p1), .val (.int p2), .val (.int ((p1 &&& (2147483647 : Int32)) % (4 : Int32))), .val (.int cb), .val (.ref oo), .val (.ref w), .unset, .unset] [(.int (0 : Int32))])) _
      refine XS.istore X9.here hx rfl (hb hby at_75) rfl (l' := #[.val (.int p1), .val (.int p2), .val (.int ((p1 &&& (2147483647 : Int32)) % (4 : Int32))), .val (.int cb), .val (.ref oo), .val (.ref w), .val (.int (0 : Int32)), .unset]) rfl ?_
      show Steps p.tables e below (T9.setTop (mkF m 77 #[.val (.int p1), .val (.int p2), .val (.int ((p1 &&& (2147483647 : Int32)) % (4 : Int32))), .val (.int cb), .val (.ref oo), .val (.ref w), .val (.int (0 : Int32)), .unset] [])) _
      refine XS.iloadN X9.here hx rfl (hb hby at_77) rfl ?_
      show Steps p.tables e below (T9.setTop (mkF m 78 #[.val (.int p1), .val (.int p2), .val (.int ((p1 &&& (2147483647 : Int32)) % (4 : Int32))), .val (.int cb), .val (.ref oo), .val (.ref w), .val (.int (0 : Int32)), .unset] [(.int ((p1 &&& (2147483647 : Int32)) % (4 : Int32)))])) _
      refine XS.ifYes X9.here hx rfl (pc0 := 78) (pc' := 85) rfl (hb hby at_78) rfl ((if0 _ _).trans (feq (by rw [hi]; decide)).2) (by decide) (by decide) ?_
      show Steps p.tables e below (T9.setTop (mkF m 85 #[.val (.int p1), .val (.int p2), .val (.int ((p1 &&& (2147483647 : Int32)) % (4 : Int32))), .val (.int cb), .val (.ref oo), .val (.ref w), .val (.int (0 : Int32)), .unset] [])) _
      refine XS.iconst X9.here hx rfl (hb hby at_85) ?_
      show Steps p.tables e below (T9.setTop (mkF m 86 #[.val (.int p1), .val (.int p2), .val (.int ((p1 &&& (2147483647 : Int32)) % (4 : Int32))), .val (.int cb), .val (.ref oo), .val (.ref w), .val (.int (0 : Int32)), .unset] [(.int (0 : Int32))])) _
      refine XS.istore X9.here hx rfl (hb hby at_86) rfl (l' := #[.val (.int p1), .val (.int p2), .val (.int ((p1 &&& (2147483647 : Int32)) % (4 : Int32))), .val (.int cb), .val (.ref oo), .val (.ref w), .val (.int (0 : Int32)), .val (.int (0 : Int32))]) rfl ?_
      show Steps p.tables e below (T9.setTop (mkF m 88 #[.val (.int p1), .val (.int p2), .val (.int ((p1 &&& (2147483647 : Int32)) % (4 : Int32))), .val (.int cb), .val (.ref oo), .val (.ref w), .val (.int (0 : Int32)), .val (.int (0 : Int32))] [])) _
      refine XS.iload X9.here hx rfl (hb hby at_88) rfl ?_
      show Steps p.tables e below (T9.setTop (mkF m 90 #[.val (.int p1), .val (.int p2), .val (.int ((p1 &&& (2147483647 : Int32)) % (4 : Int32))), .val (.int cb), .val (.ref oo), .val (.ref w), .val (.int (0 : Int32)), .val (.int (0 : Int32))] [(.int (0 : Int32))])) _
      refine XS.iload X9.here hx rfl (hb hby at_90) rfl ?_
      show Steps p.tables e below (T9.setTop (mkF m 92 #[.val (.int p1), .val (.int p2), .val (.int ((p1 &&& (2147483647 : Int32)) % (4 : Int32))), .val (.int cb), .val (.ref oo), .val (.ref w), .val (.int (0 : Int32)), .val (.int (0 : Int32))] [(.int (0 : Int32)), (.int (0 : Int32))])) _
      refine XS.icmpYes X9.here hx rfl (pc0 := 92) (pc' := 97) rfl (hb hby at_92) rfl (teq rfl).1 (by decide) (by decide) ?_
      show Steps p.tables e below (T9.setTop (mkF m 97 #[.val (.int p1), .val (.int p2), .val (.int ((p1 &&& (2147483647 : Int32)) % (4 : Int32))), .val (.int cb), .val (.ref oo), .val (.ref w), .val (.int (0 : Int32)), .val (.int (0 : Int32))] [])) _
      refine XS.iload X9.here hx rfl (hb hby at_97) rfl ?_
      show Steps p.tables e below (T9.setTop (mkF m 99 #[.val (.int p1), .val (.int p2), .val (.int ((p1 &&& (2147483647 : Int32)) % (4 : Int32))), .val (.int cb), .val (.ref oo), .val (.ref w), .val (.int (0 : Int32)), .val (.int (0 : Int32))] [(.int (0 : Int32))])) _
      refine XS.ifYes X9.here hx rfl (pc0 := 99) (pc' := 112) rfl (hb hby at_99) rfl ((if0 _ _).trans (teq rfl).1) (by decide) (by decide) ?_
      show Steps p.tables e below (T9.setTop (mkF m 112 #[.val (.int p1), .val (.int p2), .val (.int ((p1 &&& (2147483647 : Int32)) % (4 : Int32))), .val (.int cb), .val (.ref oo), .val (.ref w), .val (.int (0 : Int32)), .val (.int (0 : Int32))] [])) _
      refine XS.iconst X9.here hx rfl (hb hby at_112) ?_
      show Steps p.tables e below (T9.setTop (mkF m 113 #[.val (.int p1), .val (.int p2), .val (.int ((p1 &&& (2147483647 : Int32)) % (4 : Int32))), .val (.int cb), .val (.ref oo), .val (.ref w), .val (.int (0 : Int32)), .val (.int (0 : Int32))] [(.int (1 : Int32))])) _
      exact retN X9 hx (t := .boolean) Bd.returns (by simp) (hb hby at_113) hr
    · show Q_rm0 Z p1 p2 aS kS wI wC wT wU oo w h0 n0 _ T9.heap _
      rw [e9]
      exact ⟨rfl, N9, trivial⟩
  · obtain ⟨T10, X10, e10, st10⟩ := getS2 X0 hx hZ hown (host := "") (Or.inl (hw _ (List.mem_of_getElem? (i := 38) rfl))) Via.refl e0 S1 (g := (mkF m 49 #[.val (.int p1), .val (.int p2), .val (.int ((p1 &&& (2147483647 : Int32)) % (4 : Int32))), .val (.int cb), .unset, .unset, .unset, .unset] [])) rfl (hb hby at_49)
    obtain ⟨_, _, ⟨T11, L11, k11, n11⟩, -, X11, ⟨Lc11, hQ11, l11, y11, z11⟩, st11⟩ := Jvm.LawKit.callS X10 hx (y := (⟨"com/example/modfin/modfin/alloy/Verdict", "of", "(Lcom/example/modfin/modfin/core/Outcome;Z)Lcom/example/modfin/modfin/alloy/Verdict;"⟩ : MethodName)) hown (mvT hZ (hw _ (List.mem_of_getElem? (i := 4) rfl))) (mvT hZ (hw _ (List.mem_of_getElem? (i := 5) rfl))) (mvT hZ (hw _ (List.mem_of_getElem? (i := 6) rfl))) (mvT hZ (hw _ (List.mem_of_getElem? (i := 7) rfl))) (by decide) (backOf (W := 0) (rm1 l Z a0 hw [] oo cb aS kS w h0 n0 (Nat.le_trans Z0 (Keep.refl h0 []).1) E SM VS (hof cb hcb)) hZ (hw _ (List.mem_of_getElem? (i := 7) rfl)) (hw _ (List.mem_of_getElem? (i := 6) rfl)) (by decide) (by decide)) (g := (mkF m 65 #[.val (.int p1), .val (.int p2), .val (.int ((p1 &&& (2147483647 : Int32)) % (4 : Int32))), .val (.int cb), .val (.ref oo), .unset, .unset, .unset] [(.int cb), (.ref oo)])) rfl (by rw [hml]; rfl) (argsL := [(.ref oo), (.int cb)]) (rest := []) (lenOf pd_1 rfl) rfl (by show 2 * 0 + _ ≤ _; exact Nat.le_of_eq rfl) (hb hby at_65) (fun _ _ => ⟨rfl, e10, (by decide : 0 + 0 ≤ _), (by decide : 0 + 0 ≤ _)⟩)
    dsimp only [Pt.U, Pt.locs, Pt.cells, Pt.slots] at X11 l11 y11 z11 st11 hQ11
    subst l11 y11 z11
    obtain ⟨rfl, N11q, eq11⟩ := hQ11
    have N11 := Fr.app N0 N11q
    have e11 : T11.heap = h0 := eq11
    obtain ⟨cq12, kq12, q12a, q12b, q12c⟩ := isOf hZ e11 Ew
    obtain ⟨_, _, ⟨T12, L12, k12, n12⟩, -, X12, ⟨Lc12, hQ12, l12, y12, z12⟩, st12⟩ := X11.virtualBack hx (y := (⟨"com/example/modfin/modfin/alloy/Verdict", "isFound", "()Z"⟩ : MethodName)) (z := (⟨"com/example/modfin/modfin/alloy/Verdict", "isFound", "()Z"⟩ : MethodName)) hown (mvT hZ (hw _ (List.mem_of_getElem? (i := 22) rfl))) (mvT hZ (hw _ (List.mem_of_getElem? (i := 23) rfl))) (notFace_of_selects (args := #[]) (mvT hZ (hw _ (List.mem_of_getElem? (i := 25) rfl)))) (mvT hZ (hw _ (List.mem_of_getElem? (i := 25) rfl))) (mvT hZ (hw _ (List.mem_of_getElem? (i := 24) rfl))) (by decide) (backOf (W := 0) (rm3 l Z a0 hw [] w wI wC (0 : Int32) h0 n0 (Nat.le_trans Z0 (Keep.refl h0 []).1) SI SC (Or.inr (Or.inr ⟨hF.1, hF.2, rfl⟩))) hZ (hw _ (List.mem_of_getElem? (i := 26) rfl)) (hw _ (List.mem_of_getElem? (i := 6) rfl)) (by decide) (by decide)) q12a q12c (g := (mkF m 72 #[.val (.int p1), .val (.int p2), .val (.int ((p1 &&& (2147483647 : Int32)) % (4 : Int32))), .val (.int cb), .val (.ref oo), .val (.ref w), .unset, .unset] [(.ref w)])) rfl (by rw [hml]; rfl) (Steps.refl _) (argsL := []) (rest := []) (lenOf pd_2 rfl) rfl (by show 2 * 0 + _ ≤ _; exact Nat.le_of_eq rfl) (hb hby at_72) (fun _ _ => ⟨rfl, e11, (by decide : 0 + 0 ≤ _), (by decide : 0 + 0 ≤ _)⟩)
    dsimp only [Pt.U, Pt.locs, Pt.cells, Pt.slots] at X12 l12 y12 z12 st12 hQ12
    subst l12 y12 z12
    obtain ⟨rfl, N12q, eq12⟩ := hQ12
    have N12 := Fr.app N11 N12q
    have e12 : T12.heap = h0 := eq12
    obtain ⟨fs, hr, hrun, hended, hW, hsame⟩ := X12.leave (v := some (.int (1 : Int32))) (fun h => by rw [Bd.returns] at h; cases h)
    refine ⟨_, _, pre2 _ ?_, hrun, hended, _, _, rfl, ?_, ⟨_, rfl⟩, hW, hsame.mono (by decide) (by decide)⟩
    · show Steps p.tables e below (s₁.setTop (mkF m 19 #[.val (.int p1), .val (.int p2), .val (.int ((p1 &&& (2147483647 : Int32)) % (4 : Int32))), .val (.int cb), .unset, .unset, .unset, .unset] [])) _
      refine XS.iloadN X0.here hx rfl (hb hby at_19) rfl ?_
      show Steps p.tables e below (s₁.setTop (mkF m 20 #[.val (.int p1), .val (.int p2), .val (.int ((p1 &&& (2147483647 : Int32)) % (4 : Int32))), .val (.int cb), .unset, .unset, .unset, .unset] [(.int ((p1 &&& (2147483647 : Int32)) % (4 : Int32)))])) _
      refine XS.ifYes X0.here hx rfl (pc0 := 20) (pc' := 31) rfl (hb hby at_20) rfl ((if0 _ _).trans (feq (by rw [hi]; decide)).2) (by decide) (by decide) ?_
      show Steps p.tables e below (s₁.setTop (mkF m 31 #[.val (.int p1), .val (.int p2), .val (.int ((p1 &&& (2147483647 : Int32)) % (4 : Int32))), .val (.int cb), .unset, .unset, .unset, .unset] [])) _
      refine XS.iloadN X0.here hx rfl (hb hby at_31) rfl ?_
      show Steps p.tables e below (s₁.setTop (mkF m 32 #[.val (.int p1), .val (.int p2), .val (.int ((p1 &&& (2147483647 : Int32)) % (4 : Int32))), .val (.int cb), .unset, .unset, .unset, .unset] [(.int ((p1 &&& (2147483647 : Int32)) % (4 : Int32)))])) _
      refine XS.iconst X0.here hx rfl (hb hby at_32) ?_
      show Steps p.tables e below (s₁.setTop (mkF m 33 #[.val (.int p1), .val (.int p2), .val (.int ((p1 &&& (2147483647 : Int32)) % (4 : Int32))), .val (.int cb), .unset, .unset, .unset, .unset] [(.int (1 : Int32)), (.int ((p1 &&& (2147483647 : Int32)) % (4 : Int32)))])) _
      refine XS.icmpYes X0.here hx rfl (pc0 := 33) (pc' := 44) rfl (hb hby at_33) rfl (feq (by rw [hi]; decide)).2 (by decide) (by decide) ?_
      show Steps p.tables e below (s₁.setTop (mkF m 44 #[.val (.int p1), .val (.int p2), .val (.int ((p1 &&& (2147483647 : Int32)) % (4 : Int32))), .val (.int cb), .unset, .unset, .unset, .unset] [])) _
      refine XS.iloadN X0.here hx rfl (hb hby at_44) rfl ?_
      show Steps p.tables e below (s₁.setTop (mkF m 45 #[.val (.int p1), .val (.int p2), .val (.int ((p1 &&& (2147483647 : Int32)) % (4 : Int32))), .val (.int cb), .unset, .unset, .unset, .unset] [(.int ((p1 &&& (2147483647 : Int32)) % (4 : Int32)))])) _
      refine XS.iconst X0.here hx rfl (hb hby at_45) ?_
      show Steps p.tables e below (s₁.setTop (mkF m 46 #[.val (.int p1), .val (.int p2), .val (.int ((p1 &&& (2147483647 : Int32)) % (4 : Int32))), .val (.int cb), .unset, .unset, .unset, .unset] [(.int (2 : Int32)), (.int ((p1 &&& (2147483647 : Int32)) % (4 : Int32)))])) _
      refine XS.icmpNo X0.here hx rfl (hb hby at_46) rfl (teq hi).2 ?_
      show Steps p.tables e below (s₁.setTop (mkF m 49 #[.val (.int p1), .val (.int p2), .val (.int ((p1 &&& (2147483647 : Int32)) % (4 : Int32))), .val (.int cb), .unset, .unset, .unset, .unset] [])) _
      refine st10 _ ?_
      show Steps p.tables e below (T10.setTop (mkF m 52 #[.val (.int p1), .val (.int p2), .val (.int ((p1 &&& (2147483647 : Int32)) % (4 : Int32))), .val (.int cb), .unset, .unset, .unset, .unset] [(.ref oo)])) _
      refine XS.astore X10.here hx rfl (hb hby at_52) rfl rfl (l' := #[.val (.int p1), .val (.int p2), .val (.int ((p1 &&& (2147483647 : Int32)) % (4 : Int32))), .val (.int cb), .val (.ref oo), .unset, .unset, .unset]) rfl ?_
      show Steps p.tables e below (T10.setTop (mkF m 54 #[.val (.int p1), .val (.int p2), .val (.int ((p1 &&& (2147483647 : Int32)) % (4 : Int32))), .val (.int cb), .val (.ref oo), .unset, .unset, .unset] [])) _
      refine XS.goto X10.here hx rfl (pc0 := 54) (pc' := 62) rfl (hb hby at_54) (by decide) (by decide) ?_
      show Steps p.tables e below (T10.setTop (mkF m 62 #[.val (.int p1), .val (.int p2), .val (.int ((p1 &&& (2147483647 : Int32)) % (4 : Int32))), .val (.int cb), .val (.ref oo), .unset, .unset, .unset] [])) _
      refine XS.aload X10.here hx rfl (hb hby at_62) rfl rfl ?_
      show Steps p.tables e below (T10.setTop (mkF m 64 #[.val (.int p1), .val (.int p2), .val (.int ((p1 &&& (2147483647 : Int32)) % (4 : Int32))), .val (.int cb), .val (.ref oo), .unset, .unset, .unset] [(.ref oo)])) _
      refine XS.iloadN X10.here hx rfl (hb hby at_64) rfl ?_
      show Steps p.tables e below (T10.setTop (mkF m 65 #[.val (.int p1), .val (.int p2), .val (.int ((p1 &&& (2147483647 : Int32)) % (4 : Int32))), .val (.int cb), .val (.ref oo), .unset, .unset, .unset] [(.int cb), (.ref oo)])) _
      refine st11 _ ?_
      show Steps p.tables e below (T11.setTop (mkF m 68 #[.val (.int p1), .val (.int p2), .val (.int ((p1 &&& (2147483647 : Int32)) % (4 : Int32))), .val (.int cb), .val (.ref oo), .unset, .unset, .unset] [(.ref w)])) _
      refine XS.astore X11.here hx rfl (hb hby at_68) rfl rfl (l' := #[.val (.int p1), .val (.int p2), .val (.int ((p1 &&& (2147483647 : Int32)) % (4 : Int32))), .val (.int cb), .val (.ref oo), .val (.ref w), .unset, .unset]) rfl ?_
      show Steps p.tables e below (T11.setTop (mkF m 70 #[.val (.int p1), .val (.int p2), .val (.int ((p1 &&& (2147483647 : Int32)) % (4 : Int32))), .val (.int cb), .val (.ref oo), .val (.ref w), .unset, .unset] [])) _
      refine XS.aload X11.here hx rfl (hb hby at_70) rfl rfl ?_
      show Steps p.tables e below (T11.setTop (mkF m 72 #[.val (.int p1), .val (.int p2), .val (.int ((p1 &&& (2147483647 : Int32)) % (4 : Int32))), .val (.int cb), .val (.ref oo), .val (.ref w), .unset, .unset] [(.ref w)])) _
      refine st12.trans ?_
      show Steps p.tables e below (T12.setTop (mkF m 75 #[.val (.int p1), .val (.int p2), .val (.int ((p1 &&& (2147483647 : Int32)) % (4 : Int32))), .val (.int cb), .val (.ref oo), .val (.ref w), .unset, .unset] [(.int (0 : Int32))])) _
      refine XS.istore X12.here hx rfl (hb hby at_75) rfl (l' := #[.val (.int p1), .val (.int p2), .val (.int ((p1 &&& (2147483647 : Int32)) % (4 : Int32))), .val (.int cb), .val (.ref oo), .val (.ref w), .val (.int (0 : Int32)), .unset]) rfl ?_
      show Steps p.tables e below (T12.setTop (mkF m 77 #[.val (.int p1), .val (.int p2), .val (.int ((p1 &&& (2147483647 : Int32)) % (4 : Int32))), .val (.int cb), .val (.ref oo), .val (.ref w), .val (.int (0 : Int32)), .unset] [])) _
      refine XS.iloadN X12.here hx rfl (hb hby at_77) rfl ?_
      show Steps p.tables e below (T12.setTop (mkF m 78 #[.val (.int p1), .val (.int p2), .val (.int ((p1 &&& (2147483647 : Int32)) % (4 : Int32))), .val (.int cb), .val (.ref oo), .val (.ref w), .val (.int (0 : Int32)), .unset] [(.int ((p1 &&& (2147483647 : Int32)) % (4 : Int32)))])) _
      refine XS.ifYes X12.here hx rfl (pc0 := 78) (pc' := 85) rfl (hb hby at_78) rfl ((if0 _ _).trans (feq (by rw [hi]; decide)).2) (by decide) (by decide) ?_
      show Steps p.tables e below (T12.setTop (mkF m 85 #[.val (.int p1), .val (.int p2), .val (.int ((p1 &&& (2147483647 : Int32)) % (4 : Int32))), .val (.int cb), .val (.ref oo), .val (.ref w), .val (.int (0 : Int32)), .unset] [])) _
      refine XS.iconst X12.here hx rfl (hb hby at_85) ?_
      show Steps p.tables e below (T12.setTop (mkF m 86 #[.val (.int p1), .val (.int p2), .val (.int ((p1 &&& (2147483647 : Int32)) % (4 : Int32))), .val (.int cb), .val (.ref oo), .val (.ref w), .val (.int (0 : Int32)), .unset] [(.int (0 : Int32))])) _
      refine XS.istore X12.here hx rfl (hb hby at_86) rfl (l' := #[.val (.int p1), .val (.int p2), .val (.int ((p1 &&& (2147483647 : Int32)) % (4 : Int32))), .val (.int cb), .val (.ref oo), .val (.ref w), .val (.int (0 : Int32)), .val (.int (0 : Int32))]) rfl ?_
      show Steps p.tables e below (T12.setTop (mkF m 88 #[.val (.int p1), .val (.int p2), .val (.int ((p1 &&& (2147483647 : Int32)) % (4 : Int32))), .val (.int cb), .val (.ref oo), .val (.ref w), .val (.int (0 : Int32)), .val (.int (0 : Int32))] [])) _
      refine XS.iload X12.here hx rfl (hb hby at_88) rfl ?_
      show Steps p.tables e below (T12.setTop (mkF m 90 #[.val (.int p1), .val (.int p2), .val (.int ((p1 &&& (2147483647 : Int32)) % (4 : Int32))), .val (.int cb), .val (.ref oo), .val (.ref w), .val (.int (0 : Int32)), .val (.int (0 : Int32))] [(.int (0 : Int32))])) _
      refine XS.iload X12.here hx rfl (hb hby at_90) rfl ?_
      show Steps p.tables e below (T12.setTop (mkF m 92 #[.val (.int p1), .val (.int p2), .val (.int ((p1 &&& (2147483647 : Int32)) % (4 : Int32))), .val (.int cb), .val (.ref oo), .val (.ref w), .val (.int (0 : Int32)), .val (.int (0 : Int32))] [(.int (0 : Int32)), (.int (0 : Int32))])) _
      refine XS.icmpYes X12.here hx rfl (pc0 := 92) (pc' := 97) rfl (hb hby at_92) rfl (teq rfl).1 (by decide) (by decide) ?_
      show Steps p.tables e below (T12.setTop (mkF m 97 #[.val (.int p1), .val (.int p2), .val (.int ((p1 &&& (2147483647 : Int32)) % (4 : Int32))), .val (.int cb), .val (.ref oo), .val (.ref w), .val (.int (0 : Int32)), .val (.int (0 : Int32))] [])) _
      refine XS.iload X12.here hx rfl (hb hby at_97) rfl ?_
      show Steps p.tables e below (T12.setTop (mkF m 99 #[.val (.int p1), .val (.int p2), .val (.int ((p1 &&& (2147483647 : Int32)) % (4 : Int32))), .val (.int cb), .val (.ref oo), .val (.ref w), .val (.int (0 : Int32)), .val (.int (0 : Int32))] [(.int (0 : Int32))])) _
      refine XS.ifYes X12.here hx rfl (pc0 := 99) (pc' := 112) rfl (hb hby at_99) rfl ((if0 _ _).trans (teq rfl).1) (by decide) (by decide) ?_
      show Steps p.tables e below (T12.setTop (mkF m 112 #[.val (.int p1), .val (.int p2), .val (.int ((p1 &&& (2147483647 : Int32)) % (4 : Int32))), .val (.int cb), .val (.ref oo), .val (.ref w), .val (.int (0 : Int32)), .val (.int (0 : Int32))] [])) _
      refine XS.iconst X12.here hx rfl (hb hby at_112) ?_
      show Steps p.tables e below (T12.setTop (mkF m 113 #[.val (.int p1), .val (.int p2), .val (.int ((p1 &&& (2147483647 : Int32)) % (4 : Int32))), .val (.int cb), .val (.ref oo), .val (.ref w), .val (.int (0 : Int32)), .val (.int (0 : Int32))] [(.int (1 : Int32))])) _
      exact retN X12 hx (t := .boolean) Bd.returns (by simp) (hb hby at_113) hr
    · show Q_rm0 Z p1 p2 aS kS wI wC wT wU oo w h0 n0 _ T12.heap _
      rw [e12]
      exact ⟨rfl, N12, trivial⟩
  · obtain ⟨T13, X13, e13, st13⟩ := getS2 X0 hx hZ hown (host := "") (Or.inl (hw _ (List.mem_of_getElem? (i := 44) rfl))) Via.refl e0 S1 (g := (mkF m 57 #[.val (.int p1), .val (.int p2), .val (.int ((p1 &&& (2147483647 : Int32)) % (4 : Int32))), .val (.int cb), .unset, .unset, .unset, .unset] [])) rfl (hb hby at_57)
    obtain ⟨_, _, ⟨T14, L14, k14, n14⟩, -, X14, ⟨Lc14, hQ14, l14, y14, z14⟩, st14⟩ := Jvm.LawKit.callS X13 hx (y := (⟨"com/example/modfin/modfin/alloy/Verdict", "of", "(Lcom/example/modfin/modfin/core/Outcome;Z)Lcom/example/modfin/modfin/alloy/Verdict;"⟩ : MethodName)) hown (mvT hZ (hw _ (List.mem_of_getElem? (i := 4) rfl))) (mvT hZ (hw _ (List.mem_of_getElem? (i := 5) rfl))) (mvT hZ (hw _ (List.mem_of_getElem? (i := 6) rfl))) (mvT hZ (hw _ (List.mem_of_getElem? (i := 7) rfl))) (by decide) (backOf (W := 0) (rm1 l Z a0 hw [] oo cb aS kS w h0 n0 (Nat.le_trans Z0 (Keep.refl h0 []).1) E SM VS (hof cb hcb)) hZ (hw _ (List.mem_of_getElem? (i := 7) rfl)) (hw _ (List.mem_of_getElem? (i := 6) rfl)) (by decide) (by decide)) (g := (mkF m 65 #[.val (.int p1), .val (.int p2), .val (.int ((p1 &&& (2147483647 : Int32)) % (4 : Int32))), .val (.int cb), .val (.ref oo), .unset, .unset, .unset] [(.int cb), (.ref oo)])) rfl (by rw [hml]; rfl) (argsL := [(.ref oo), (.int cb)]) (rest := []) (lenOf pd_1 rfl) rfl (by show 2 * 0 + _ ≤ _; exact Nat.le_of_eq rfl) (hb hby at_65) (fun _ _ => ⟨rfl, e13, (by decide : 0 + 0 ≤ _), (by decide : 0 + 0 ≤ _)⟩)
    dsimp only [Pt.U, Pt.locs, Pt.cells, Pt.slots] at X14 l14 y14 z14 st14 hQ14
    subst l14 y14 z14
    obtain ⟨rfl, N14q, eq14⟩ := hQ14
    have N14 := Fr.app N0 N14q
    have e14 : T14.heap = h0 := eq14
    obtain ⟨cq15, kq15, q15a, q15b, q15c⟩ := isOf hZ e14 Ew
    obtain ⟨_, _, ⟨T15, L15, k15, n15⟩, -, X15, ⟨Lc15, hQ15, l15, y15, z15⟩, st15⟩ := X14.virtualBack hx (y := (⟨"com/example/modfin/modfin/alloy/Verdict", "isFound", "()Z"⟩ : MethodName)) (z := (⟨"com/example/modfin/modfin/alloy/Verdict", "isFound", "()Z"⟩ : MethodName)) hown (mvT hZ (hw _ (List.mem_of_getElem? (i := 22) rfl))) (mvT hZ (hw _ (List.mem_of_getElem? (i := 23) rfl))) (notFace_of_selects (args := #[]) (mvT hZ (hw _ (List.mem_of_getElem? (i := 25) rfl)))) (mvT hZ (hw _ (List.mem_of_getElem? (i := 25) rfl))) (mvT hZ (hw _ (List.mem_of_getElem? (i := 24) rfl))) (by decide) (backOf (W := 0) (rm3 l Z a0 hw [] w wI wC (0 : Int32) h0 n0 (Nat.le_trans Z0 (Keep.refl h0 []).1) SI SC (Or.inr (Or.inr ⟨hF.1, hF.2, rfl⟩))) hZ (hw _ (List.mem_of_getElem? (i := 26) rfl)) (hw _ (List.mem_of_getElem? (i := 6) rfl)) (by decide) (by decide)) q15a q15c (g := (mkF m 72 #[.val (.int p1), .val (.int p2), .val (.int ((p1 &&& (2147483647 : Int32)) % (4 : Int32))), .val (.int cb), .val (.ref oo), .val (.ref w), .unset, .unset] [(.ref w)])) rfl (by rw [hml]; rfl) (Steps.refl _) (argsL := []) (rest := []) (lenOf pd_2 rfl) rfl (by show 2 * 0 + _ ≤ _; exact Nat.le_of_eq rfl) (hb hby at_72) (fun _ _ => ⟨rfl, e14, (by decide : 0 + 0 ≤ _), (by decide : 0 + 0 ≤ _)⟩)
    dsimp only [Pt.U, Pt.locs, Pt.cells, Pt.slots] at X15 l15 y15 z15 st15 hQ15
    subst l15 y15 z15
    obtain ⟨rfl, N15q, eq15⟩ := hQ15
    have N15 := Fr.app N14 N15q
    have e15 : T15.heap = h0 := eq15
    obtain ⟨fs, hr, hrun, hended, hW, hsame⟩ := X15.leave (v := some (.int (1 : Int32))) (fun h => by rw [Bd.returns] at h; cases h)
    refine ⟨_, _, pre2 _ ?_, hrun, hended, _, _, rfl, ?_, ⟨_, rfl⟩, hW, hsame.mono (by decide) (by decide)⟩
    · show Steps p.tables e below (s₁.setTop (mkF m 19 #[.val (.int p1), .val (.int p2), .val (.int ((p1 &&& (2147483647 : Int32)) % (4 : Int32))), .val (.int cb), .unset, .unset, .unset, .unset] [])) _
      refine XS.iloadN X0.here hx rfl (hb hby at_19) rfl ?_
      show Steps p.tables e below (s₁.setTop (mkF m 20 #[.val (.int p1), .val (.int p2), .val (.int ((p1 &&& (2147483647 : Int32)) % (4 : Int32))), .val (.int cb), .unset, .unset, .unset, .unset] [(.int ((p1 &&& (2147483647 : Int32)) % (4 : Int32)))])) _
      refine XS.ifYes X0.here hx rfl (pc0 := 20) (pc' := 31) rfl (hb hby at_20) rfl ((if0 _ _).trans (feq (by rw [hi]; decide)).2) (by decide) (by decide) ?_
      show Steps p.tables e below (s₁.setTop (mkF m 31 #[.val (.int p1), .val (.int p2), .val (.int ((p1 &&& (2147483647 : Int32)) % (4 : Int32))), .val (.int cb), .unset, .unset, .unset, .unset] [])) _
      refine XS.iloadN X0.here hx rfl (hb hby at_31) rfl ?_
      show Steps p.tables e below (s₁.setTop (mkF m 32 #[.val (.int p1), .val (.int p2), .val (.int ((p1 &&& (2147483647 : Int32)) % (4 : Int32))), .val (.int cb), .unset, .unset, .unset, .unset] [(.int ((p1 &&& (2147483647 : Int32)) % (4 : Int32)))])) _
      refine XS.iconst X0.here hx rfl (hb hby at_32) ?_
      show Steps p.tables e below (s₁.setTop (mkF m 33 #[.val (.int p1), .val (.int p2), .val (.int ((p1 &&& (2147483647 : Int32)) % (4 : Int32))), .val (.int cb), .unset, .unset, .unset, .unset] [(.int (1 : Int32)), (.int ((p1 &&& (2147483647 : Int32)) % (4 : Int32)))])) _
      refine XS.icmpYes X0.here hx rfl (pc0 := 33) (pc' := 44) rfl (hb hby at_33) rfl (feq (by rw [hi]; decide)).2 (by decide) (by decide) ?_
      show Steps p.tables e below (s₁.setTop (mkF m 44 #[.val (.int p1), .val (.int p2), .val (.int ((p1 &&& (2147483647 : Int32)) % (4 : Int32))), .val (.int cb), .unset, .unset, .unset, .unset] [])) _
      refine XS.iloadN X0.here hx rfl (hb hby at_44) rfl ?_
      show Steps p.tables e below (s₁.setTop (mkF m 45 #[.val (.int p1), .val (.int p2), .val (.int ((p1 &&& (2147483647 : Int32)) % (4 : Int32))), .val (.int cb), .unset, .unset, .unset, .unset] [(.int ((p1 &&& (2147483647 : Int32)) % (4 : Int32)))])) _
      refine XS.iconst X0.here hx rfl (hb hby at_45) ?_
      show Steps p.tables e below (s₁.setTop (mkF m 46 #[.val (.int p1), .val (.int p2), .val (.int ((p1 &&& (2147483647 : Int32)) % (4 : Int32))), .val (.int cb), .unset, .unset, .unset, .unset] [(.int (2 : Int32)), (.int ((p1 &&& (2147483647 : Int32)) % (4 : Int32)))])) _
      refine XS.icmpYes X0.here hx rfl (pc0 := 46) (pc' := 57) rfl (hb hby at_46) rfl (feq (by rw [hi]; decide)).2 (by decide) (by decide) ?_
      show Steps p.tables e below (s₁.setTop (mkF m 57 #[.val (.int p1), .val (.int p2), .val (.int ((p1 &&& (2147483647 : Int32)) % (4 : Int32))), .val (.int cb), .unset, .unset, .unset, .unset] [])) _
      refine st13 _ ?_
      show Steps p.tables e below (T13.setTop (mkF m 60 #[.val (.int p1), .val (.int p2), .val (.int ((p1 &&& (2147483647 : Int32)) % (4 : Int32))), .val (.int cb), .unset, .unset, .unset, .unset] [(.ref oo)])) _
      refine XS.astore X13.here hx rfl (hb hby at_60) rfl rfl (l' := #[.val (.int p1), .val (.int p2), .val (.int ((p1 &&& (2147483647 : Int32)) % (4 : Int32))), .val (.int cb), .val (.ref oo), .unset, .unset, .unset]) rfl ?_
      show Steps p.tables e below (T13.setTop (mkF m 62 #[.val (.int p1), .val (.int p2), .val (.int ((p1 &&& (2147483647 : Int32)) % (4 : Int32))), .val (.int cb), .val (.ref oo), .unset, .unset, .unset] [])) _
      refine XS.aload X13.here hx rfl (hb hby at_62) rfl rfl ?_
      show Steps p.tables e below (T13.setTop (mkF m 64 #[.val (.int p1), .val (.int p2), .val (.int ((p1 &&& (2147483647 : Int32)) % (4 : Int32))), .val (.int cb), .val (.ref oo), .unset, .unset, .unset] [(.ref oo)])) _
      refine XS.iloadN X13.here hx rfl (hb hby at_64) rfl ?_
      show Steps p.tables e below (T13.setTop (mkF m 65 #[.val (.int p1), .val (.int p2), .val (.int ((p1 &&& (2147483647 : Int32)) % (4 : Int32))), .val (.int cb), .val (.ref oo), .unset, .unset, .unset] [(.int cb), (.ref oo)])) _
      refine st14 _ ?_
      show Steps p.tables e below (T14.setTop (mkF m 68 #[.val (.int p1), .val (.int p2), .val (.int ((p1 &&& (2147483647 : Int32)) % (4 : Int32))), .val (.int cb), .val (.ref oo), .unset, .unset, .unset] [(.ref w)])) _
      refine XS.astore X14.here hx rfl (hb hby at_68) rfl rfl (l' := #[.val (.int p1), .val (.int p2), .val (.int ((p1 &&& (2147483647 : Int32)) % (4 : Int32))), .val (.int cb), .val (.ref oo), .val (.ref w), .unset, .unset]) rfl ?_
      show Steps p.tables e below (T14.setTop (mkF m 70 #[.val (.int p1), .val (.int p2), .val (.int ((p1 &&& (2147483647 : Int32)) % (4 : Int32))), .val (.int cb), .val (.ref oo), .val (.ref w), .unset, .unset] [])) _
      refine XS.aload X14.here hx rfl (hb hby at_70) rfl rfl ?_
      show Steps p.tables e below (T14.setTop (mkF m 72 #[.val (.int p1), .val (.int p2), .val (.int ((p1 &&& (2147483647 : Int32)) % (4 : Int32))), .val (.int cb), .val (.ref oo), .val (.ref w), .unset, .unset] [(.ref w)])) _
      refine st15.trans ?_
      show Steps p.tables e below (T15.setTop (mkF m 75 #[.val (.int p1), .val (.int p2), .val (.int ((p1 &&& (2147483647 : Int32)) % (4 : Int32))), .val (.int cb), .val (.ref oo), .val (.ref w), .unset, .unset] [(.int (0 : Int32))])) _
      refine XS.istore X15.here hx rfl (hb hby at_75) rfl (l' := #[.val (.int p1), .val (.int p2), .val (.int ((p1 &&& (2147483647 : Int32)) % (4 : Int32))), .val (.int cb), .val (.ref oo), .val (.ref w), .val (.int (0 : Int32)), .unset]) rfl ?_
      show Steps p.tables e below (T15.setTop (mkF m 77 #[.val (.int p1), .val (.int p2), .val (.int ((p1 &&& (2147483647 : Int32)) % (4 : Int32))), .val (.int cb), .val (.ref oo), .val (.ref w), .val (.int (0 : Int32)), .unset] [])) _
      refine XS.iloadN X15.here hx rfl (hb hby at_77) rfl ?_
      show Steps p.tables e below (T15.setTop (mkF m 78 #[.val (.int p1), .val (.int p2), .val (.int ((p1 &&& (2147483647 : Int32)) % (4 : Int32))), .val (.int cb), .val (.ref oo), .val (.ref w), .val (.int (0 : Int32)), .unset] [(.int ((p1 &&& (2147483647 : Int32)) % (4 : Int32)))])) _
      refine XS.ifYes X15.here hx rfl (pc0 := 78) (pc' := 85) rfl (hb hby at_78) rfl ((if0 _ _).trans (feq (by rw [hi]; decide)).2) (by decide) (by decide) ?_
      show Steps p.tables e below (T15.setTop (mkF m 85 #[.val (.int p1), .val (.int p2), .val (.int ((p1 &&& (2147483647 : Int32)) % (4 : Int32))), .val (.int cb), .val (.ref oo), .val (.ref w), .val (.int (0 : Int32)), .unset] [])) _
      refine XS.iconst X15.here hx rfl (hb hby at_85) ?_
      show Steps p.tables e below (T15.setTop (mkF m 86 #[.val (.int p1), .val (.int p2), .val (.int ((p1 &&& (2147483647 : Int32)) % (4 : Int32))), .val (.int cb), .val (.ref oo), .val (.ref w), .val (.int (0 : Int32)), .unset] [(.int (0 : Int32))])) _
      refine XS.istore X15.here hx rfl (hb hby at_86) rfl (l' := #[.val (.int p1), .val (.int p2), .val (.int ((p1 &&& (2147483647 : Int32)) % (4 : Int32))), .val (.int cb), .val (.ref oo), .val (.ref w), .val (.int (0 : Int32)), .val (.int (0 : Int32))]) rfl ?_
      show Steps p.tables e below (T15.setTop (mkF m 88 #[.val (.int p1), .val (.int p2), .val (.int ((p1 &&& (2147483647 : Int32)) % (4 : Int32))), .val (.int cb), .val (.ref oo), .val (.ref w), .val (.int (0 : Int32)), .val (.int (0 : Int32))] [])) _
      refine XS.iload X15.here hx rfl (hb hby at_88) rfl ?_
      show Steps p.tables e below (T15.setTop (mkF m 90 #[.val (.int p1), .val (.int p2), .val (.int ((p1 &&& (2147483647 : Int32)) % (4 : Int32))), .val (.int cb), .val (.ref oo), .val (.ref w), .val (.int (0 : Int32)), .val (.int (0 : Int32))] [(.int (0 : Int32))])) _
      refine XS.iload X15.here hx rfl (hb hby at_90) rfl ?_
      show Steps p.tables e below (T15.setTop (mkF m 92 #[.val (.int p1), .val (.int p2), .val (.int ((p1 &&& (2147483647 : Int32)) % (4 : Int32))), .val (.int cb), .val (.ref oo), .val (.ref w), .val (.int (0 : Int32)), .val (.int (0 : Int32))] [(.int (0 : Int32)), (.int (0 : Int32))])) _
      refine XS.icmpYes X15.here hx rfl (pc0 := 92) (pc' := 97) rfl (hb hby at_92) rfl (teq rfl).1 (by decide) (by decide) ?_
      show Steps p.tables e below (T15.setTop (mkF m 97 #[.val (.int p1), .val (.int p2), .val (.int ((p1 &&& (2147483647 : Int32)) % (4 : Int32))), .val (.int cb), .val (.ref oo), .val (.ref w), .val (.int (0 : Int32)), .val (.int (0 : Int32))] [])) _
      refine XS.iload X15.here hx rfl (hb hby at_97) rfl ?_
      show Steps p.tables e below (T15.setTop (mkF m 99 #[.val (.int p1), .val (.int p2), .val (.int ((p1 &&& (2147483647 : Int32)) % (4 : Int32))), .val (.int cb), .val (.ref oo), .val (.ref w), .val (.int (0 : Int32)), .val (.int (0 : Int32))] [(.int (0 : Int32))])) _
      refine XS.ifYes X15.here hx rfl (pc0 := 99) (pc' := 112) rfl (hb hby at_99) rfl ((if0 _ _).trans (teq rfl).1) (by decide) (by decide) ?_
      show Steps p.tables e below (T15.setTop (mkF m 112 #[.val (.int p1), .val (.int p2), .val (.int ((p1 &&& (2147483647 : Int32)) % (4 : Int32))), .val (.int cb), .val (.ref oo), .val (.ref w), .val (.int (0 : Int32)), .val (.int (0 : Int32))] [])) _
      refine XS.iconst X15.here hx rfl (hb hby at_112) ?_
      show Steps p.tables e below (T15.setTop (mkF m 113 #[.val (.int p1), .val (.int p2), .val (.int ((p1 &&& (2147483647 : Int32)) % (4 : Int32))), .val (.int cb), .val (.ref oo), .val (.ref w), .val (.int (0 : Int32)), .val (.int (0 : Int32))] [(.int (1 : Int32))])) _
      exact retN X15 hx (t := .boolean) Bd.returns (by simp) (hb hby at_113) hr
    · show Q_rm0 Z p1 p2 aS kS wI wC wT wU oo w h0 n0 _ T15.heap _
      rw [e15]
      exact ⟨rfl, N15, trivial⟩
set_option maxRecDepth 65536 in
set_option maxHeartbeats 40000000 in
theorem comes_1 {Post : Tables → Env → Array Value → State → Outcome → State → Prop} (hpost : ∀ tb e args s v u, (limb_1_1.after args s (.returned v) u = true ∧ limb_1_2.after args s (.returned v) u = true ∧ True) → FrameEnd s (.returned v) u (Jvm.fieldLocs frame_1_writes args s ++ Jvm.arrayLocs frame_1_arrays args s ++ Jvm.staticLocs frame_1_statics s) 0 0 → Post tb e args s (.returned v) u) :
    ArmFor flags0 classFile x code maxLocals ret World_1 tables_1 room_1 Calls_1 rest_1 Pre_1 Post := by
  intro l hfl _ _ p e ha hc hk s m args below hf hA hF happ hP
  obtain ⟨hcalls, hrest, hpre⟩ := hP
  obtain ⟨-, -, -, hnamed, -, -, -, hat⟩ := (Spec.applies_iff hf).mp happ
  obtain ⟨hg, hn⟩ := and_e (Cond.before_iff.mp (show (Jvm.Cond.and given_1 narrow_1).before args s = true from hpre))
  obtain ⟨g1, hg⟩ := and_e hg
  obtain ⟨g2, g3⟩ := and_e hg
  obtain ⟨w0, w1, rfl⟩ : ∃ w0 w1 : Value, args = #[w0, w1] := by
    have hs : args.size = 2 := by simpa [Cond.value, given_1] using g1
    obtain ⟨L⟩ := args
    match L, hs with
    | [w0, w1], _ => exact ⟨w0, w1, rfl⟩
  have hw := fun d (hd : d ∈ tables_1) => atoms_spec (ws := Jvm.Cond.code x code maxLocals ret :: tables_1) hat d (List.mem_cons_of_mem _ hd)
  have hfit : Fit s := fun {y c} hc i hi => by
    obtain ⟨ha, rfl⟩ := Array.getElem?_eq_some_iff.mp hc
    have q := List.all_eq_true.mp ((Array.all_eq_true_iff_forall_mem.mp hF) _ (Array.getElem_mem ha)) i (List.mem_range.mpr hi)
    simpa [Array.getElem?_eq_getElem hi] using q
  obtain ⟨i0, ei0⟩ := is_v g2
  obtain rfl : w0 = (.int i0) := Option.some.inj ei0
  obtain ⟨i1, ei1⟩ := is_v g3
  obtain rfl : w1 = (.int i1) := Option.some.inj ei1
  obtain ⟨n0, hn⟩ := and_e hn
  obtain ⟨n1, hn⟩ := and_e hn
  obtain ⟨n2, hn⟩ := and_e hn
  obtain ⟨n3, hn⟩ := and_e hn
  obtain ⟨n4, hn⟩ := and_e hn
  obtain ⟨n5, hn⟩ := and_e hn
  obtain ⟨n6, hn⟩ := and_e hn
  obtain ⟨n7, hn⟩ := and_e hn
  obtain ⟨n8, hn⟩ := and_e hn
  obtain ⟨n9, hn⟩ := and_e hn
  obtain ⟨n10, hn⟩ := and_e hn
  obtain ⟨n11, hn⟩ := and_e hn
  obtain ⟨n12, hn⟩ := and_e hn
  obtain ⟨n13, hn⟩ := and_e hn
  obtain ⟨n14, hn⟩ := and_e hn
  obtain ⟨n15, hn⟩ := and_e hn
  obtain ⟨n16, hn⟩ := and_e hn
  obtain ⟨n17, hn⟩ := and_e hn
  obtain ⟨n18, hn⟩ := and_e hn
  obtain ⟨n19, hn⟩ := and_e hn
  obtain ⟨n20, hn⟩ := and_e hn
  obtain ⟨n21, hn⟩ := and_e hn
  obtain ⟨n22, hn⟩ := and_e hn
  obtain ⟨n23, hn⟩ := and_e hn
  obtain ⟨n24, hn⟩ := and_e hn
  have n25 := hn
  obtain ⟨c0, vc0⟩ := exa_v n0
  have Sc0 := Sta.start vc0 (Or.inr ⟨(hw _ (List.mem_of_getElem? (i := 2) rfl)), (hw _ (List.mem_of_getElem? (i := 3) rfl))⟩)
  have Ec0 := Exa.start vc0 n0
  have Oc0 := Fld.start ((fld_at vc0).symm.trans (own_eqI n3))
  obtain ⟨c1, vc1⟩ := exa_v n5
  have Sc1 := Sta.start vc1 (Or.inr ⟨(hw _ (List.mem_of_getElem? (i := 6) rfl)), (hw _ (List.mem_of_getElem? (i := 21) rfl))⟩)
  have Ec1 := Exa.start vc1 n5
  have Oc1 := Fld.start ((fld_at vc1).symm.trans (own_eqI n7))
  obtain ⟨c2, vc2⟩ := exa_v n6
  have Sc2 := Sta.start vc2 (Or.inr ⟨(hw _ (List.mem_of_getElem? (i := 6) rfl)), (hw _ (List.mem_of_getElem? (i := 28) rfl))⟩)
  have Ec2 := Exa.start vc2 n6
  have Oc2 := Fld.start ((fld_at vc2).symm.trans (own_eqI n8))
  obtain ⟨c3, vc3⟩ := exa_v n9
  have Sc3 := Sta.start vc3 (Or.inr ⟨(hw _ (List.mem_of_getElem? (i := 6) rfl)), (hw _ (List.mem_of_getElem? (i := 35) rfl))⟩)
  have Ec3 := Exa.start vc3 n9
  have Oc3 := Fld.start ((fld_at vc3).symm.trans (own_eqI n10))
  obtain ⟨c4, vc4⟩ := exa_v n11
  have Sc4 := Sta.start vc4 (Or.inr ⟨(hw _ (List.mem_of_getElem? (i := 6) rfl)), (hw _ (List.mem_of_getElem? (i := 37) rfl))⟩)
  have Ec4 := Exa.start vc4 n11
  have Oc4 := Fld.start ((fld_at vc4).symm.trans (own_eqI n12))
  obtain ⟨c5, vc5⟩ := exa_v n13
  have Sc5 := Sta.start vc5 (Or.inr ⟨(hw _ (List.mem_of_getElem? (i := 2) rfl)), (hw _ (List.mem_of_getElem? (i := 39) rfl))⟩)
  have Ec5 := Exa.start vc5 n13
  have Oc5 := Fld.start ((fld_at vc5).symm.trans (own_eqI n14))
  obtain ⟨c6, vc6⟩ := exa_v n16
  have Sc6 := Sta.start vc6 (Or.inr ⟨(hw _ (List.mem_of_getElem? (i := 2) rfl)), (hw _ (List.mem_of_getElem? (i := 41) rfl))⟩)
  have Ec6 := Exa.start vc6 n16
  have Oc6 := Fld.start ((fld_at vc6).symm.trans (own_eqI n17))
  obtain ⟨c7, vc7⟩ := exa_v n19
  have Sc7 := Sta.start vc7 (Or.inr ⟨(hw _ (List.mem_of_getElem? (i := 6) rfl)), (hw _ (List.mem_of_getElem? (i := 43) rfl))⟩)
  have Ec7 := Exa.start vc7 n19
  have Oc7 := Fld.start ((fld_at vc7).symm.trans (own_eqI n20))
  obtain ⟨c8, vc8⟩ := exa_v n21
  have Sc8 := Sta.start vc8 (Or.inr ⟨(hw _ (List.mem_of_getElem? (i := 2) rfl)), (hw _ (List.mem_of_getElem? (i := 45) rfl))⟩)
  have Ec8 := Exa.start vc8 n21
  have Oc8 := Fld.start ((fld_at vc8).symm.trans (own_eqI n22))
  obtain ⟨c9, vc9⟩ := exa_v n24
  have Sc9 := Sta.start vc9 (Or.inr ⟨(hw _ (List.mem_of_getElem? (i := 6) rfl)), (hw _ (List.mem_of_getElem? (i := 47) rfl))⟩)
  have Ec9 := Exa.start vc9 n24
  have Oc9 := Fld.start ((fld_at vc9).symm.trans (own_eqI n25))
  obtain ⟨aS, vaS⟩ := arr_v n1
  have SM := Sta.start vaS (Or.inr ⟨(hw _ (List.mem_of_getElem? (i := 9) rfl)), (hw _ (List.mem_of_getElem? (i := 10) rfl))⟩)
  obtain ⟨cl, Acl⟩ := Arr.start vaS n1
  have VS := own_arv4 hfit Acl vaS n2 n4 n18 n15 n23
  obtain ⟨oo, w, hlaw⟩ : ∃ oo w : Addr, ((((i0 &&& (2147483647 : Int32)) % (4 : Int32)) = (0 : Int32) ∧ Sta s s.heap "com/example/modfin/modfin/core/Outcome" "MODEL" "Lcom/example/modfin/modfin/core/Outcome;" (.ref oo) ∧ ((w = c2 ∨ (¬ (w = c2) ∧ w = c1)) ∧ ¬ (w = c3) ∧ ¬ (w = c4))) ∨ (((i0 &&& (2147483647 : Int32)) % (4 : Int32)) = (1 : Int32) ∧ Sta s s.heap "com/example/modfin/modfin/core/Outcome" "NO_MODEL" "Lcom/example/modfin/modfin/core/Outcome;" (.ref oo) ∧ (¬ (w = c2) ∧ ¬ (w = c1))) ∨ (((i0 &&& (2147483647 : Int32)) % (4 : Int32)) = (2 : Int32) ∧ Sta s s.heap "com/example/modfin/modfin/core/Outcome" "TIMEOUT" "Lcom/example/modfin/modfin/core/Outcome;" (.ref oo) ∧ (¬ (w = c2) ∧ ¬ (w = c1))) ∨ (((i0 &&& (2147483647 : Int32)) % (4 : Int32)) = (3 : Int32) ∧ Sta s s.heap "com/example/modfin/modfin/core/Outcome" "UNKNOWN" "Lcom/example/modfin/modfin/core/Outcome;" (.ref oo) ∧ (¬ (w = c2) ∧ ¬ (w = c1)))) ∧ Exa s s.heap oo "com/example/modfin/modfin/core/Outcome" ∧ Exa s s.heap w "com/example/modfin/modfin/alloy/Verdict" ∧ (∀ cb : Int32, (((i1 &&& (1 : Int32)) = (0 : Int32) ∧ cb = (0 : Int32)) ∨ (¬ ((i1 &&& (1 : Int32)) = (0 : Int32)) ∧ cb = (1 : Int32))) → (Fld s s.heap oo "java/lang/Enum" "ordinal" "I" (.int (0 : Int32)) ∧ ((¬ (cb = (0 : Int32)) ∧ Sta s s.heap "com/example/modfin/modfin/alloy/Verdict" "COUNTEREXAMPLE" "Lcom/example/modfin/modfin/alloy/Verdict;" (.ref w)) ∨ (cb = (0 : Int32) ∧ Sta s s.heap "com/example/modfin/modfin/alloy/Verdict" "INSTANCE" "Lcom/example/modfin/modfin/alloy/Verdict;" (.ref w)))) ∨ (Fld s s.heap oo "java/lang/Enum" "ordinal" "I" (.int (1 : Int32)) ∧ ((¬ (cb = (0 : Int32)) ∧ Sta s s.heap "com/example/modfin/modfin/alloy/Verdict" "NO_COUNTEREXAMPLE" "Lcom/example/modfin/modfin/alloy/Verdict;" (.ref w)) ∨ (cb = (0 : Int32) ∧ Sta s s.heap "com/example/modfin/modfin/alloy/Verdict" "NO_INSTANCE" "Lcom/example/modfin/modfin/alloy/Verdict;" (.ref w)))) ∨ (Fld s s.heap oo "java/lang/Enum" "ordinal" "I" (.int (2 : Int32)) ∧ Sta s s.heap "com/example/modfin/modfin/alloy/Verdict" "TIMEOUT" "Lcom/example/modfin/modfin/alloy/Verdict;" (.ref w)) ∨ (Fld s s.heap oo "java/lang/Enum" "ordinal" "I" (.int (3 : Int32)) ∧ Sta s s.heap "com/example/modfin/modfin/alloy/Verdict" "UNKNOWN" "Lcom/example/modfin/modfin/alloy/Verdict;" (.ref w))) := by
    rcases own_mod4 i0 with q | q | q | q
    · by_cases r : (i1 &&& (1 : Int32)) = (0 : Int32)
      · exact ⟨c0, c2, Or.inl ⟨q, Sc0, ⟨Or.inl rfl, (own_ne vc2 vc3 n8 n10 (by decide)), (own_ne vc2 vc4 n8 n12 (by decide))⟩⟩, Ec0, Ec2, fun cb hcb => by
        have hcb : cb = (0 : Int32) := by
          rcases hcb with ⟨r1, r2⟩ | ⟨r1, r2⟩
          · first | exact r2 | exact absurd r1 r
          · first | exact absurd r r1 | (rw [r2]; decide)
        exact Or.inl ⟨Oc0, Or.inr ⟨hcb, Sc2⟩⟩⟩
      · exact ⟨c0, c1, Or.inl ⟨q, Sc0, ⟨Or.inr ⟨(own_ne vc1 vc2 n7 n8 (by decide)), rfl⟩, (own_ne vc1 vc3 n7 n10 (by decide)), (own_ne vc1 vc4 n7 n12 (by decide))⟩⟩, Ec0, Ec1, fun cb hcb => by
        have hcb : ¬ (cb = (0 : Int32)) := by
          rcases hcb with ⟨r1, r2⟩ | ⟨r1, r2⟩
          · first | exact r2 | exact absurd r1 r
          · first | exact absurd r r1 | (rw [r2]; decide)
        exact Or.inl ⟨Oc0, Or.inl ⟨hcb, Sc1⟩⟩⟩
    · by_cases r : (i1 &&& (1 : Int32)) = (0 : Int32)
      · exact ⟨c6, c9, Or.inr (Or.inl ⟨q, Sc6, ⟨(own_ne vc9 vc2 n25 n8 (by decide)), (own_ne vc9 vc1 n25 n7 (by decide))⟩⟩), Ec6, Ec9, fun cb hcb => by
        have hcb : cb = (0 : Int32) := by
          rcases hcb with ⟨r1, r2⟩ | ⟨r1, r2⟩
          · first | exact r2 | exact absurd r1 r
          · first | exact absurd r r1 | (rw [r2]; decide)
        exact Or.inr (Or.inl ⟨Oc6, Or.inr ⟨hcb, Sc9⟩⟩)⟩
      · exact ⟨c6, c7, Or.inr (Or.inl ⟨q, Sc6, ⟨(own_ne vc7 vc2 n20 n8 (by decide)), (own_ne vc7 vc1 n20 n7 (by decide))⟩⟩), Ec6, Ec7, fun cb hcb => by
        have hcb : ¬ (cb = (0 : Int32)) := by
          rcases hcb with ⟨r1, r2⟩ | ⟨r1, r2⟩
          · first | exact r2 | exact absurd r1 r
          · first | exact absurd r r1 | (rw [r2]; decide)
        exact Or.inr (Or.inl ⟨Oc6, Or.inl ⟨hcb, Sc7⟩⟩)⟩
    · by_cases r : (i1 &&& (1 : Int32)) = (0 : Int32)
      · exact ⟨c5, c3, Or.inr (Or.inr (Or.inl ⟨q, Sc5, ⟨(own_ne vc3 vc2 n10 n8 (by decide)), (own_ne vc3 vc1 n10 n7 (by decide))⟩⟩)), Ec5, Ec3, fun cb hcb => by
        have hcb : cb = (0 : Int32) := by
          rcases hcb with ⟨r1, r2⟩ | ⟨r1, r2⟩
          · first | exact r2 | exact absurd r1 r
          · first | exact absurd r r1 | (rw [r2]; decide)
        exact Or.inr (Or.inr (Or.inl ⟨Oc5, Sc3⟩))⟩
      · exact ⟨c5, c3, Or.inr (Or.inr (Or.inl ⟨q, Sc5, ⟨(own_ne vc3 vc2 n10 n8 (by decide)), (own_ne vc3 vc1 n10 n7 (by decide))⟩⟩)), Ec5, Ec3, fun cb hcb => by
        have hcb : ¬ (cb = (0 : Int32)) := by
          rcases hcb with ⟨r1, r2⟩ | ⟨r1, r2⟩
          · first | exact r2 | exact absurd r1 r
          · first | exact absurd r r1 | (rw [r2]; decide)
        exact Or.inr (Or.inr (Or.inl ⟨Oc5, Sc3⟩))⟩
    · by_cases r : (i1 &&& (1 : Int32)) = (0 : Int32)
      · exact ⟨c8, c4, Or.inr (Or.inr (Or.inr ⟨q, Sc8, ⟨(own_ne vc4 vc2 n12 n8 (by decide)), (own_ne vc4 vc1 n12 n7 (by decide))⟩⟩)), Ec8, Ec4, fun cb hcb => by
        have hcb : cb = (0 : Int32) := by
          rcases hcb with ⟨r1, r2⟩ | ⟨r1, r2⟩
          · first | exact r2 | exact absurd r1 r
          · first | exact absurd r r1 | (rw [r2]; decide)
        exact Or.inr (Or.inr (Or.inr ⟨Oc8, Sc4⟩))⟩
      · exact ⟨c8, c4, Or.inr (Or.inr (Or.inr ⟨q, Sc8, ⟨(own_ne vc4 vc2 n12 n8 (by decide)), (own_ne vc4 vc1 n12 n7 (by decide))⟩⟩)), Ec8, Ec4, fun cb hcb => by
        have hcb : ¬ (cb = (0 : Int32)) := by
          rcases hcb with ⟨r1, r2⟩ | ⟨r1, r2⟩
          · first | exact r2 | exact absurd r1 r
          · first | exact absurd r r1 | (rw [r2]; decide)
        exact Or.inr (Or.inr (Or.inr ⟨Oc8, Sc4⟩))⟩
  obtain ⟨n, o, h1, h2, h3, _, L, rfl, ⟨rfl, N, -⟩, hq⟩ := rm0 l s _ hw tables_1 i0 i1 aS _ c2 c1 c3 c4 oo w s.heap s.heap.size (Nat.le_refl _) SM VS Sc2 Sc1 Sc3 Sc4 hlaw p e ha hc hk s m _ below hf ((Spec.applies_iff_loose hf).mp happ).1 ⟨rfl, State.Warmed39.refl s, rfl⟩ trivial
  refine ⟨n, _, h1, h2, h3, hpost _ _ _ _ _ _ ⟨Cond.after_iff.mpr rfl, Cond.after_iff.mpr (eq_i res_at (Term.int_eval (1)) rfl), trivial⟩ ⟨hq.1, hq.2.1, (hq.2.2.sift fun y hy => Or.inr (N y hy)).mono (by decide) (by decide)⟩⟩
theorem main_1_1 : Claimed_1_1 := comes_1 fun _ _ _ _ _ _ h hF => ⟨h.1, hF⟩
theorem main_1_2 : Claimed_1_2 := comes_1 fun _ _ _ _ _ _ h hF => ⟨h.2.1, hF⟩
end Jvm.Pilot.@@N@@
namespace Jvm.Pilot.@@N@@
open Jvm Jvm.ClassFile Sem Op Lib Jvm.Free Jvm.Stand Jvm.Pilot.@@N@@.Jvm.D
/-! MADE BY PROGRAM (witnessworld.py) out of the Statement's table words and the real class files: 14 classes; the members and pool entries that the words name. The judged class is class 1, her method 1. -/
namespace start1
open Jvm.ClassFile
def u (s : String) : CpInfo := .utf8 (stringToUtf16 s)
/-- a pool by its gaps: so many unusable entries, then the entry; so many at the end -/
def gap : Nat → List CpInfo → List CpInfo
  | 0, r => r
  | n + 1, r => .unusable :: gap n r
def poolList (es : List (Nat × CpInfo)) (last : Nat) : List CpInfo := es.foldr (fun e r => gap e.1 (e.2 :: r)) (gap last [])
def pool (es : List (Nat × CpInfo)) (last : Nat) : Array CpInfo := ⟨poolList es last⟩
def fileOf (pool : Array CpInfo) (this : Nat) (attrs : Array Attribute := #[]) (ms : Array MethodInfo := #[]) (fl : Nat := 33) (sup : Nat := 0) (ifs : Array Nat := #[]) (fds : Array FieldInfo := #[]) : ClassFile where
  minorVersion := 0
  majorVersion := 65
  constantPool := pool
  accessFlags := fl
  thisClass := this
  superClass := sup
  interfaces := ifs
  fields := fds
  methods := ms
  attributes := attrs
def plain (name : String) (sup : Option ClassId) : Class where
  name := name
  kind := .ordinary
  loader := none
  accessFlags := 33
  super := sup
  interfaces := #[]
  cf := none
  fields := #[]
  methods := #[]
  instanceTypes := #[]
  staticTypes := #[]
  resolved := #[]
  callSites := []
  init := .initialized
  statics := none
  mirror := none

def pool0 : Array CpInfo := pool [(5, u "<init>"), (0, u "()V"), (1, .class_ 10), (1, u "java/lang/Object")] 113

def k0m0 : Method := { name := "<init>", desc := "()V", sig := { parameters := [], returnType := none }, accessFlags := 1, code := none }
/-- java/lang/Object -/
def k0 : Class := { plain "java/lang/Object" none with
  accessFlags := 33
  interfaces := #[]
  cf := some (fileOf pool0 8 #[] #[{ accessFlags := 1, nameIndex := 5, descriptorIndex := 6, attributes := #[] }] 33 0 #[] #[])
  fields := #[]
  methods := #[k0m0]
  instanceTypes := #[]
  staticTypes := #[]
  resolved := Array.replicate 124 none
  statics := none }

def pool1 : Array CpInfo := pool [(2, .class_ 4), (1, u "java/lang/Object"), (0, u "<init>"), (0, u "()V"), (0, .integer 2147483647), (0, .fieldref 9 10), (0, .class_ 11), (0, .nameAndType 12 13), (0, u "com/example/modfin/modfin/core/Outcome"), (0, u "MODEL"), (0, u "Lcom/example/modfin/modfin/core/Outcome;"), (0, .fieldref 9 15), (0, .nameAndType 16 13), (0, u "NO_MODEL"), (0, .fieldref 9 18), (0, .nameAndType 19 13), (0, u "TIMEOUT"), (0, .fieldref 9 21), (0, .nameAndType 22 13), (0, u "UNKNOWN"), (0, .methodref 24 25), (0, .class_ 26), (0, .nameAndType 27 28), (0, u "com/example/modfin/modfin/alloy/Verdict"), (0, u "of"), (0, u "(Lcom/example/modfin/modfin/core/Outcome;Z)Lcom/example/modfin/modfin/alloy/Verdict;"), (0, .methodref 24 30), (0, .nameAndType 31 32), (0, u "isFound"), (0, u "()Z"), (0, .methodref 24 34), (0, .nameAndType 35 32), (0, u "isDecided"), (0, .class_ 37), (0, u "com/example/modfin/modfin/alloy/VerdictIsFoundPinLaw"), (2, u "law"), (0, u "(II)Z")] 3

def k1m0 : Method := { name := "<init>", desc := "()V", sig := { parameters := [], returnType := none }, accessFlags := 2, code := none }
def k1c1 : Code := { maxStack := 2, maxLocals := 8, code := code, exceptionTable := #[], attributes := #[] }
def k1m1 : Method := { name := "law", desc := "(II)Z", sig := { parameters := [.int, .int], returnType := some .boolean }, accessFlags := 9, code := some k1c1 }
/-- com/example/modfin/modfin/alloy/VerdictIsFoundPinLaw -/
def k1 : Class := { plain "com/example/modfin/modfin/alloy/VerdictIsFoundPinLaw" (some 0) with
  accessFlags := 49
  interfaces := #[]
  cf := some (fileOf pool1 36 #[] #[{ accessFlags := 2, nameIndex := 5, descriptorIndex := 6, attributes := #[] }, { accessFlags := 9, nameIndex := 40, descriptorIndex := 41, attributes := #[] }] 49 2 #[] #[])
  fields := #[]
  methods := #[k1m0, k1m1]
  instanceTypes := #[]
  staticTypes := #[]
  resolved := Array.replicate 45 none
  statics := none }

def pool2 : Array CpInfo := pool [(1, .class_ 2), (0, u "java/lang/constant/Constable"), (0, .class_ 4), (0, u "java/lang/Object")] 6

/-- java/lang/constant/Constable -/
def k2 : Class := { plain "java/lang/constant/Constable" (some 0) with
  accessFlags := 1537
  interfaces := #[]
  cf := some (fileOf pool2 1 #[] #[] 1537 3 #[] #[])
  fields := #[]
  methods := #[]
  instanceTypes := #[]
  staticTypes := #[]
  resolved := Array.replicate 11 none
  statics := none }

def pool3 : Array CpInfo := pool [(1, .class_ 2), (0, u "java/lang/Comparable"), (0, .class_ 4), (0, u "java/lang/Object")] 7

/-- java/lang/Comparable -/
def k3 : Class := { plain "java/lang/Comparable" (some 0) with
  accessFlags := 1537
  interfaces := #[]
  cf := some (fileOf pool3 1 #[] #[] 1537 3 #[] #[])
  fields := #[]
  methods := #[]
  instanceTypes := #[]
  staticTypes := #[]
  resolved := Array.replicate 12 none
  statics := none }

def pool4 : Array CpInfo := pool [(1, .class_ 2), (0, u "java/io/Serializable"), (0, .class_ 4), (0, u "java/lang/Object")] 2

/-- java/io/Serializable -/
def k4 : Class := { plain "java/io/Serializable" (some 0) with
  accessFlags := 1537
  interfaces := #[]
  cf := some (fileOf pool4 1 #[] #[] 1537 3 #[] #[])
  fields := #[]
  methods := #[]
  instanceTypes := #[]
  staticTypes := #[]
  resolved := Array.replicate 7 none
  statics := none }

def pool5 : Array CpInfo := pool [(2, .class_ 4), (1, u "java/lang/Enum"), (0, u "name"), (0, u "Ljava/lang/String;"), (0, .fieldref 2 8), (0, .nameAndType 9 10), (0, u "ordinal"), (0, u "I"), (1, .class_ 14), (1, u "java/lang/Object"), (4, u "hash"), (86, .class_ 108), (1, u "java/lang/Enum$EnumDesc"), (2, .class_ 112), (0, u "java/lang/constant/Constable"), (0, .class_ 114), (0, u "java/lang/Comparable"), (0, .class_ 116), (0, u "java/io/Serializable"), (9, u "()I")] 77

def k5c0 : Code := { maxStack := 1, maxLocals := 1, code := jdk_37_method_2_code, exceptionTable := #[], attributes := #[] }
def k5m0 : Method := { name := "ordinal", desc := "()I", sig := { parameters := [], returnType := some .int }, accessFlags := 17, code := some k5c0 }
/-- java/lang/Enum -/
def k5 : Class := { plain "java/lang/Enum" (some 0) with
  accessFlags := 1057
  interfaces := #[2, 3, 4]
  cf := some (fileOf pool5 2 #[.nestMembers #[106]] #[{ accessFlags := 17, nameIndex := 9, descriptorIndex := 126, attributes := #[] }] 1057 12 #[111, 113, 115] #[{ accessFlags := 18, nameIndex := 5, descriptorIndex := 6, attributes := #[] }, { accessFlags := 18, nameIndex := 9, descriptorIndex := 10, attributes := #[] }, { accessFlags := 2, nameIndex := 19, descriptorIndex := 10, attributes := #[] }])
  fields := #[{ name := "name", type := (.object "java/lang/String"), accessFlags := 18, slot := 0, constantValue := 0 }, { name := "ordinal", type := .int, accessFlags := 18, slot := 1, constantValue := 0 }, { name := "hash", type := .int, accessFlags := 2, slot := 2, constantValue := 0 }]
  methods := #[k5m0]
  instanceTypes := #[(.object "java/lang/String"), .int, .int]
  staticTypes := #[]
  resolved := Array.replicate 204 none
  statics := none }

def pool6 : Array CpInfo := pool [(1, .class_ 2), (0, u "com/example/modfin/modfin/core/Outcome"), (2, u "MODEL"), (0, u "Lcom/example/modfin/modfin/core/Outcome;"), (2, u "NO_MODEL"), (2, u "TIMEOUT"), (2, u "UNKNOWN"), (2, u "$VALUES"), (0, u "[Lcom/example/modfin/modfin/core/Outcome;"), (6, .class_ 28), (1, u "java/lang/Enum")] 26

/-- com/example/modfin/modfin/core/Outcome -/
def k6 : Class := { plain "com/example/modfin/modfin/core/Outcome" (some 5) with
  accessFlags := 16433
  interfaces := #[]
  cf := some (fileOf pool6 1 #[] #[] 16433 26 #[] #[{ accessFlags := 16409, nameIndex := 5, descriptorIndex := 6, attributes := #[] }, { accessFlags := 16409, nameIndex := 9, descriptorIndex := 6, attributes := #[] }, { accessFlags := 16409, nameIndex := 12, descriptorIndex := 6, attributes := #[] }, { accessFlags := 16409, nameIndex := 15, descriptorIndex := 6, attributes := #[] }, { accessFlags := 4122, nameIndex := 18, descriptorIndex := 19, attributes := #[] }])
  fields := #[{ name := "MODEL", type := (.object "com/example/modfin/modfin/core/Outcome"), accessFlags := 16409, slot := 0, constantValue := 0 }, { name := "NO_MODEL", type := (.object "com/example/modfin/modfin/core/Outcome"), accessFlags := 16409, slot := 1, constantValue := 0 }, { name := "TIMEOUT", type := (.object "com/example/modfin/modfin/core/Outcome"), accessFlags := 16409, slot := 2, constantValue := 0 }, { name := "UNKNOWN", type := (.object "com/example/modfin/modfin/core/Outcome"), accessFlags := 16409, slot := 3, constantValue := 0 }, { name := "$VALUES", type := (.array (.object "com/example/modfin/modfin/core/Outcome")), accessFlags := 4122, slot := 4, constantValue := 0 }]
  methods := #[]
  instanceTypes := #[(.object "java/lang/String"), .int, .int]
  staticTypes := #[(.object "com/example/modfin/modfin/core/Outcome"), (.object "com/example/modfin/modfin/core/Outcome"), (.object "com/example/modfin/modfin/core/Outcome"), (.object "com/example/modfin/modfin/core/Outcome"), (.array (.object "com/example/modfin/modfin/core/Outcome"))]
  resolved := Array.replicate 55 none
  statics := some 0 }

def pool7 : Array CpInfo := pool [(1, .class_ 2), (0, u "com/example/modfin/modfin/alloy/Verdict"), (0, .fieldref 1 4), (0, .nameAndType 5 6), (0, u "INSTANCE"), (0, u "Lcom/example/modfin/modfin/alloy/Verdict;"), (0, .fieldref 1 8), (0, .nameAndType 9 6), (0, u "NO_INSTANCE"), (0, .fieldref 1 11), (0, .nameAndType 12 6), (0, u "COUNTEREXAMPLE"), (0, .fieldref 1 14), (0, .nameAndType 15 6), (0, u "NO_COUNTEREXAMPLE"), (0, .fieldref 1 17), (0, .nameAndType 18 6), (0, u "TIMEOUT"), (0, .fieldref 1 20), (0, .nameAndType 21 6), (0, u "UNKNOWN"), (2, u "$VALUES"), (0, u "[Lcom/example/modfin/modfin/alloy/Verdict;"), (6, .class_ 34), (1, u "java/lang/Enum"), (8, u "words"), (0, u "Ljava/lang/String;"), (0, .fieldref 46 47), (0, .class_ 48), (0, .nameAndType 49 50), (0, u "com/example/modfin/modfin/alloy/Verdict$1"), (0, u "$SwitchMap$com$example$modfin$modfin$core$Outcome"), (0, u "[I"), (0, .methodref 52 53), (0, .class_ 54), (0, .nameAndType 55 56), (0, u "com/example/modfin/modfin/core/Outcome"), (0, u "ordinal"), (0, u "()I"), (32, u "of"), (0, u "(Lcom/example/modfin/modfin/core/Outcome;Z)Lcom/example/modfin/modfin/alloy/Verdict;"), (1, u "isDecided"), (0, u "()Z"), (0, u "isFound")] 9

def k7c0 : Code := { maxStack := 2, maxLocals := 2, code := prog_3_method_4_code, exceptionTable := #[], attributes := #[] }
def k7m0 : Method := { name := "of", desc := "(Lcom/example/modfin/modfin/core/Outcome;Z)Lcom/example/modfin/modfin/alloy/Verdict;", sig := { parameters := [(.object "com/example/modfin/modfin/core/Outcome"), .boolean], returnType := some (.object "com/example/modfin/modfin/alloy/Verdict") }, accessFlags := 9, code := some k7c0 }
def k7c1 : Code := { maxStack := 2, maxLocals := 1, code := prog_3_method_5_code, exceptionTable := #[], attributes := #[] }
def k7m1 : Method := { name := "isDecided", desc := "()Z", sig := { parameters := [], returnType := some .boolean }, accessFlags := 1, code := some k7c1 }
def k7c2 : Code := { maxStack := 2, maxLocals := 1, code := prog_3_method_6_code, exceptionTable := #[], attributes := #[] }
def k7m2 : Method := { name := "isFound", desc := "()Z", sig := { parameters := [], returnType := some .boolean }, accessFlags := 1, code := some k7c2 }
/-- com/example/modfin/modfin/alloy/Verdict -/
def k7 : Class := { plain "com/example/modfin/modfin/alloy/Verdict" (some 5) with
  accessFlags := 16433
  interfaces := #[]
  cf := some (fileOf pool7 1 #[.nestMembers #[46]] #[{ accessFlags := 9, nameIndex := 89, descriptorIndex := 90, attributes := #[] }, { accessFlags := 1, nameIndex := 92, descriptorIndex := 93, attributes := #[] }, { accessFlags := 1, nameIndex := 94, descriptorIndex := 93, attributes := #[] }] 16433 32 #[] #[{ accessFlags := 16409, nameIndex := 5, descriptorIndex := 6, attributes := #[] }, { accessFlags := 16409, nameIndex := 9, descriptorIndex := 6, attributes := #[] }, { accessFlags := 16409, nameIndex := 12, descriptorIndex := 6, attributes := #[] }, { accessFlags := 16409, nameIndex := 15, descriptorIndex := 6, attributes := #[] }, { accessFlags := 16409, nameIndex := 18, descriptorIndex := 6, attributes := #[] }, { accessFlags := 16409, nameIndex := 21, descriptorIndex := 6, attributes := #[] }, { accessFlags := 18, nameIndex := 43, descriptorIndex := 44, attributes := #[] }, { accessFlags := 4122, nameIndex := 24, descriptorIndex := 25, attributes := #[] }])
  fields := #[{ name := "INSTANCE", type := (.object "com/example/modfin/modfin/alloy/Verdict"), accessFlags := 16409, slot := 0, constantValue := 0 }, { name := "NO_INSTANCE", type := (.object "com/example/modfin/modfin/alloy/Verdict"), accessFlags := 16409, slot := 1, constantValue := 0 }, { name := "COUNTEREXAMPLE", type := (.object "com/example/modfin/modfin/alloy/Verdict"), accessFlags := 16409, slot := 2, constantValue := 0 }, { name := "NO_COUNTEREXAMPLE", type := (.object "com/example/modfin/modfin/alloy/Verdict"), accessFlags := 16409, slot := 3, constantValue := 0 }, { name := "TIMEOUT", type := (.object "com/example/modfin/modfin/alloy/Verdict"), accessFlags := 16409, slot := 4, constantValue := 0 }, { name := "UNKNOWN", type := (.object "com/example/modfin/modfin/alloy/Verdict"), accessFlags := 16409, slot := 5, constantValue := 0 }, { name := "words", type := (.object "java/lang/String"), accessFlags := 18, slot := 3, constantValue := 0 }, { name := "$VALUES", type := (.array (.object "com/example/modfin/modfin/alloy/Verdict")), accessFlags := 4122, slot := 6, constantValue := 0 }]
  methods := #[k7m0, k7m1, k7m2]
  instanceTypes := #[(.object "java/lang/String"), .int, .int, (.object "java/lang/String")]
  staticTypes := #[(.object "com/example/modfin/modfin/alloy/Verdict"), (.object "com/example/modfin/modfin/alloy/Verdict"), (.object "com/example/modfin/modfin/alloy/Verdict"), (.object "com/example/modfin/modfin/alloy/Verdict"), (.object "com/example/modfin/modfin/alloy/Verdict"), (.object "com/example/modfin/modfin/alloy/Verdict"), (.array (.object "com/example/modfin/modfin/alloy/Verdict"))]
  resolved := Array.replicate 104 none
  statics := some 1 }

def pool8 : Array CpInfo := pool [(8, .class_ 10), (1, u "com/example/modfin/modfin/alloy/Verdict$1"), (0, u "$SwitchMap$com$example$modfin$modfin$core$Outcome"), (0, u "[I"), (16, .class_ 30), (0, u "java/lang/Object"), (8, .class_ 40), (0, u "com/example/modfin/modfin/alloy/Verdict")] 2

/-- com/example/modfin/modfin/alloy/Verdict$1 -/
def k8 : Class := { plain "com/example/modfin/modfin/alloy/Verdict$1" (some 0) with
  accessFlags := 4128
  interfaces := #[]
  cf := some (fileOf pool8 8 #[.nestHost 39] #[] 4128 29 #[] #[{ accessFlags := 4120, nameIndex := 11, descriptorIndex := 12, attributes := #[] }])
  fields := #[{ name := "$SwitchMap$com$example$modfin$modfin$core$Outcome", type := (.array .int), accessFlags := 4120, slot := 0, constantValue := 0 }]
  methods := #[]
  instanceTypes := #[]
  staticTypes := #[(.array .int)]
  resolved := Array.replicate 43 none
  statics := some 2 }

def pool9 : Array CpInfo := pool [(1, u "java/lang/Cloneable"), (0, .class_ 1), (0, u "java/lang/Object"), (0, .class_ 3)] 3

/-- java/lang/Cloneable -/
def k9 : Class := { plain "java/lang/Cloneable" (some 0) with
  accessFlags := 1537
  interfaces := #[]
  cf := some (fileOf pool9 2 #[] #[] 1537 4 #[] #[])
  fields := #[]
  methods := #[]
  instanceTypes := #[]
  staticTypes := #[]
  resolved := Array.replicate 8 none
  statics := none }

/-- the primitive byte -/
def k10 : Class := { plain "byte" none with kind := .primitive 'B', accessFlags := 0x411 }
/-- [B -/
def k11 : Class := { plain "[B" (some 0) with kind := .array 10 .byte, interfaces := #[9, 4], accessFlags := 1041 }

/-- the primitive int -/
def k12 : Class := { plain "int" none with kind := .primitive 'I', accessFlags := 0x411 }
/-- [I -/
def k13 : Class := { plain "[I" (some 0) with kind := .array 12 .int, interfaces := #[9, 4], accessFlags := 1041 }

def heap : Heap := #[{ cls := 6, slots := #[.ref 3, .ref 4, .ref 5, .ref 6, .null], vm := .statics 6 },
  { cls := 7, slots := #[.ref 7, .ref 8, .ref 9, .ref 10, .ref 11, .ref 12, .null], vm := .statics 7 },
  { cls := 8, slots := #[.ref 13], vm := .statics 8 },
  { cls := 6, slots := #[.null, .int 0, .int 0], vm := .none },
  { cls := 6, slots := #[.null, .int 1, .int 0], vm := .none },
  { cls := 6, slots := #[.null, .int 2, .int 0], vm := .none },
  { cls := 6, slots := #[.null, .int 3, .int 0], vm := .none },
  { cls := 7, slots := #[.null, .int 0, .int 0, .null], vm := .none },
  { cls := 7, slots := #[.null, .int 1, .int 0, .null], vm := .none },
  { cls := 7, slots := #[.null, .int 2, .int 0, .null], vm := .none },
  { cls := 7, slots := #[.null, .int 3, .int 0, .null], vm := .none },
  { cls := 7, slots := #[.null, .int 4, .int 0, .null], vm := .none },
  { cls := 7, slots := #[.null, .int 5, .int 0, .null], vm := .none },
  { cls := 13, slots := #[.int 1, .int 2, .int 3, .int 0], vm := .none }]
def classes : Array Class := #[k0, k1, k2, k3, k4, k5, k6, k7, k8, k9, k10, k11, k12, k13]
def interned : List (Array UInt16 × Addr) := []
def slotsUsed : Nat := 53
def theMethod : MethodId := ⟨1, 1⟩
def args0 : Array Value := #[.int 5, .int 3]
def aboutOver (below : List Frame) : State where
  vm := { classes := classes, interned := interned.toArray }
  heap := heap
  slotsUsed := slotsUsed
  threads := #[{ frames := .invoking theMethod args0 :: below }]
def below0 : List Frame := [.native { method := ⟨0, 0⟩, args := #[] }]
def about1 : State := aboutOver below0
def p0 : Program := .bare "" "" ""
def e0 : Env := launch0.env 0 0 0
theorem w_frames : about1.frames = Frame.invoking theMethod args0 :: below0 := rfl
set_option maxRecDepth 65536 in
theorem w_args : argsFit about1.vm theMethod args0 = true := by decide +kernel
set_option maxRecDepth 65536 in
theorem w_heap : heapFits about1 = true := by decide +kernel
set_option maxRecDepth 65536 in
theorem w_runnable : about1.curStatus? = some .runnable := by decide +kernel
set_option maxRecDepth 65536 in
theorem w_alone : about1.alone = true := by decide +kernel
set_option maxRecDepth 65536 in
theorem w_named : about1.methodNamed? x = some theMethod := by decide +kernel
set_option maxRecDepth 65536 in
theorem w_hears : about1.hears theMethod below0 = true := by decide +kernel
set_option maxRecDepth 65536 in
theorem w_ripe : about1.ripe theMethod args0 below0 = true := by decide +kernel
theorem w_running : about1.status = .running := rfl
set_option maxRecDepth 65536 in
theorem w_room : about1.hasRoom e0.platform room_1 = true :=
  launch0.hasRoom_least _ room_1 (by decide +kernel) (by decide +kernel) (by decide +kernel) (by decide +kernel) (by decide +kernel) (by decide +kernel)
theorem allAtoms_all (ts : List Jvm.Cond) (a : Array Jvm.Value) (st : Jvm.State) : (allAtoms ts).before a st = ts.all (fun c => c.before a st) := by
  induction ts with
  | nil => rfl
  | cons c t ih =>
    show (Jvm.Cond.and c (allAtoms t)).before a st = _
    rw [Jvm.Cond.before_and, ih, List.all_cons]
def words1 : List Jvm.Cond := Jvm.Cond.code x code maxLocals ret :: tables_1
/-- a 'code' word, met by the world's own term for the bytes: nothing is compared byte by byte -/
theorem code_word {y : MethodName} {bytes : ByteArray} {mx : Nat} {rt : Option FieldType} {a : Array Value} {s : State} {m : MethodId} {meth : Method} {c : Code} (h1 : s.methodNamed? y = some m) (h2 : s.vm.method? m = some meth) (h3 : meth.code = some c) (h4 : c.code = bytes)
    (h5 : (c.maxLocals == mx && c.exceptionTable.isEmpty && decide (c.maxStack ≤ mostOperands) && decide (meth.sig.returnType = rt) && !meth.locks && decide (parseMethodDescriptor y.desc = some meth.sig)) = true) : (Jvm.Cond.code y bytes mx rt).before a s = true := by
  simp only [Bool.and_eq_true, beq_iff_eq, Bool.not_eq_true', decide_eq_true_eq] at h5
  obtain ⟨⟨⟨⟨⟨g1, g2⟩, g3⟩, g4⟩, g5⟩, g6⟩ := h5
  simp [Cond.before, Cond.holds, Cond.value, h1, h2, h3, h4, g1, g2, g3, g4, g5, g6]
def isCode : Jvm.Cond → Bool
  | .code _ _ _ _ => true
  | _ => false
theorem all_split {L : List Jvm.Cond} {P : Jvm.Cond → Bool} (h1 : L.all (fun c => isCode c || P c) = true) (h2 : ∀ c ∈ L.filter isCode, P c = true) : L.all P = true := by
  refine List.all_eq_true.mpr fun c hc => ?_
  have h := List.all_eq_true.mp h1 c hc
  rcases Bool.eq_false_or_eq_true (isCode c) with hi | hi
  · exact h2 c (List.mem_filter.mpr ⟨hc, hi⟩)
  · simpa [hi] using h
set_option maxRecDepth 65536 in
theorem w_c0 : (Jvm.Cond.code x code maxLocals ret).before args0 about1 = true := code_word (m := ⟨1, 1⟩) (meth := k1m1) (c := k1c1) (by decide +kernel) rfl rfl rfl (by decide +kernel)
set_option maxRecDepth 65536 in
theorem w_c1 : (Jvm.Cond.code ({ cls := "com/example/modfin/modfin/alloy/Verdict", name := "of", desc := "(Lcom/example/modfin/modfin/core/Outcome;Z)Lcom/example/modfin/modfin/alloy/Verdict;" } : Jvm.MethodName) prog_3_method_4_code (2 : Nat) (Option.some (Jvm.ClassFile.FieldType.object "com/example/modfin/modfin/alloy/Verdict"))).before args0 about1 = true := code_word (m := ⟨7, 0⟩) (meth := k7m0) (c := k7c0) (by decide +kernel) rfl rfl rfl (by decide +kernel)
set_option maxRecDepth 65536 in
theorem w_c2 : (Jvm.Cond.code ({ cls := "java/lang/Enum", name := "ordinal", desc := "()I" } : Jvm.MethodName) jdk_37_method_2_code (1 : Nat) (Option.some Jvm.ClassFile.FieldType.int)).before args0 about1 = true := code_word (m := ⟨5, 0⟩) (meth := k5m0) (c := k5c0) (by decide +kernel) rfl rfl rfl (by decide +kernel)
set_option maxRecDepth 65536 in
theorem w_c3 : (Jvm.Cond.code ({ cls := "com/example/modfin/modfin/alloy/Verdict", name := "isFound", desc := "()Z" } : Jvm.MethodName) prog_3_method_6_code (1 : Nat) (Option.some Jvm.ClassFile.FieldType.boolean)).before args0 about1 = true := code_word (m := ⟨7, 2⟩) (meth := k7m2) (c := k7c2) (by decide +kernel) rfl rfl rfl (by decide +kernel)
set_option maxRecDepth 65536 in
theorem w_c4 : (Jvm.Cond.code ({ cls := "com/example/modfin/modfin/alloy/Verdict", name := "isDecided", desc := "()Z" } : Jvm.MethodName) prog_3_method_5_code (1 : Nat) (Option.some Jvm.ClassFile.FieldType.boolean)).before args0 about1 = true := code_word (m := ⟨7, 1⟩) (meth := k7m1) (c := k7c1) (by decide +kernel) rfl rfl rfl (by decide +kernel)
def codes1 : List Jvm.Cond := [Jvm.Cond.code x code maxLocals ret, Jvm.Cond.code ({ cls := "com/example/modfin/modfin/alloy/Verdict", name := "of", desc := "(Lcom/example/modfin/modfin/core/Outcome;Z)Lcom/example/modfin/modfin/alloy/Verdict;" } : Jvm.MethodName) prog_3_method_4_code (2 : Nat) (Option.some (Jvm.ClassFile.FieldType.object "com/example/modfin/modfin/alloy/Verdict")), Jvm.Cond.code ({ cls := "java/lang/Enum", name := "ordinal", desc := "()I" } : Jvm.MethodName) jdk_37_method_2_code (1 : Nat) (Option.some Jvm.ClassFile.FieldType.int), Jvm.Cond.code ({ cls := "com/example/modfin/modfin/alloy/Verdict", name := "isFound", desc := "()Z" } : Jvm.MethodName) prog_3_method_6_code (1 : Nat) (Option.some Jvm.ClassFile.FieldType.boolean), Jvm.Cond.code ({ cls := "com/example/modfin/modfin/alloy/Verdict", name := "isDecided", desc := "()Z" } : Jvm.MethodName) prog_3_method_5_code (1 : Nat) (Option.some Jvm.ClassFile.FieldType.boolean)]
set_option maxRecDepth 65536 in
theorem codes_eq : words1.filter isCode = codes1 := rfl
theorem w_codes : ∀ c ∈ words1.filter isCode, c.before args0 about1 = true := by
  rw [codes_eq]
  intro c hc
  simp only [codes1, List.mem_cons, List.not_mem_nil, or_false] at hc
  rcases hc with rfl | rfl | rfl | rfl | rfl
  · exact w_c0
  · exact w_c1
  · exact w_c2
  · exact w_c3
  · exact w_c4
set_option maxRecDepth 65536 in
theorem w_t1 : (words1.take 24).all (fun c => isCode c || c.before args0 about1) = true := by decide +kernel
set_option maxRecDepth 65536 in
theorem w_t2 : ((words1.drop 24).take 24).all (fun c => isCode c || c.before args0 about1) = true := by decide +kernel
set_option maxRecDepth 65536 in
theorem w_t3 : ((words1.drop 24).drop 24).all (fun c => isCode c || c.before args0 about1) = true := by decide +kernel
theorem w_tables : (allAtoms (Jvm.Cond.code x code maxLocals ret :: tables_1)).before args0 about1 = true := by
  rw [allAtoms_all]
  show words1.all (fun c => c.before args0 about1) = true
  refine all_split ?_ w_codes
  rw [← List.take_append_drop 24 words1, List.all_append, w_t1, ← List.take_append_drop 24 (words1.drop 24), List.all_append, w_t2, w_t3]
  rfl
set_option maxRecDepth 65536 in
theorem w_case : (Jvm.Cond.and given_1 narrow_1).before args0 about1 = true := by decide +kernel
theorem w_applies : (headSpec (Jvm.Cond.code x code maxLocals ret :: tables_1) room_1).applies x e0.platform about1 = true :=
  (Spec.applies_iff w_frames).mpr ⟨w_running, w_runnable, w_alone, w_named, w_hears, w_ripe, w_room, w_tables⟩
theorem atStart : AtStart classFile x code maxLocals ret World_1 tables_1 room_1 Calls_1 rest_1 Pre_1 launch0 p0 e0 about1 theMethod args0 below0 :=
  ⟨lists_1, trivial, launch0.admits_env _ _ _, launch0.least_env, fairChoices_fair.cas, fairChoices_fair.clock, w_frames, w_args, w_heap, w_applies, trivial, trivial, w_case⟩
end start1
theorem witness_1 : WitnessClaimed_1 := ⟨start1.p0, start1.e0, start1.about1, start1.theMethod, start1.args0, start1.below0, start1.atStart⟩
end Jvm.Pilot.@@N@@
